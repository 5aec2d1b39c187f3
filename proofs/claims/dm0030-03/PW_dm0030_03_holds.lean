import PyProof.Rows.All
import Wide.All
import OpenK.AllK
import Wide.FinOn
import PyProof.ExcBaseAll.Exception
import PyProof.ExcAttrAll.Exception
import PyProof.InstStoreFacts
import PyProof.AttrMiss
import PyProof.ReprRoads
import PyProof.FactsAll.list_1
import PyProof.SeqRoads
import PyProof.ListOps
import PyProof.AutoSeq1
import PySem.Challenge.RW_dm0030_03
set_option Elab.async false
set_option linter.all false
set_option genInjectivity false
set_option genSizeOf false
set_option genSizeOfSpec false
section
open PySem PySem.W PyProof.Rows
set_option maxRecDepth 100000
set_option maxHeartbeats 8000000
namespace Mine
open_top hd for PySem.Challenge.rw_dm0030_03
theorem topOff : True := by
  w_top off
  trivial
end Mine
end
local macro_rules | `(tactic| walk_at $s:str) => `(tactic| k_extra $s)
local macro_rules | `(tactic| ktr_room) => `(tactic| k_extra "ktr_room")
local macro_rules | `(tactic| ktr_units) => `(tactic| k_extra "ktr_units")
local macro_rules | `(tactic| k_room) => `(tactic| k_extra "k_room")
local macro_rules | `(tactic| k_units) => `(tactic| k_extra "k_units")
local macro_rules | `(tactic| k_all) => `(tactic| k_extra "k_all")
local macro_rules | `(tactic| k_mem) => `(tactic| k_extra "k_mem")
local macro_rules | `(tactic| k_inst) => `(tactic| k_extra "k_inst")
section

open PySem PySem.W PyProof.Rows PySem.Calls PySem.Spec
set_option maxRecDepth 100000
set_option maxHeartbeats 4000000
namespace Mine
noncomputable abbrev tupObj (vs : List Value) : Obj := { cls := .type "tuple", data := .seq vs.toArray }
noncomputable abbrev excObj (C t : Addr) (d : Option Addr) : Obj := { cls := .ref C, dict := d, data := .fields #[.ref t, .none, .none, .none, .bool false, .none] }
structure ExcMakes (M : Model) (h : Heap) (C : Addr) : Prop where
  obj : ∃ oc od cd sl, h.get? C = some ⟨oc, od, .cls cd, sl⟩ ∧ cd.hasDel = false ∧ cd.mro.isEmpty = false
  mro : ∃ m, Looks M h (mroOf (.ref C)) m ∧ m.isEmpty = false
  made : Looks M h (Bind.madeBy (.ref C)) (some "Exception.__new__")
  base : Looks M h (Bind.staticBase (.ref C)) (.ref C)
  self : Looks M h (isSubtype (.ref C) (.ref C)) true
  exc : Looks M h (isSubtype (.ref C) (.type "Exception")) true
  noAttr : Looks M h (isSubtype (.ref C) (.type "AttributeError")) false
  noName : Looks M h (isSubtype (.ref C) (.type "NameError")) false
  call : Looks M h (specialOf (.ref C) "__call__") (some (.builtin "type.__call__"))
  typ : Looks M h (isInstance (.ref C) (.type "type")) true

noncomputable def excIn (K : Frag) (C : Addr) : Bool := match K.lookup C with
  | some ⟨_, _, .cls cd, sl⟩ => !cd.hasDel && (sl.toList[4]?).join == some (.builtin "Exception.__new__") && !cd.mro.isEmpty && cd.mro.contains (.ref C) && cd.mro.contains (.type "Exception") &&
      !cd.mro.contains (.type "AttributeError") && !cd.mro.contains (.type "NameError") &&
      specialIn K (.ref C) "__call__" == some (some (.builtin "type.__call__")) && instIn K (.ref C) (.type "type") == some true
  | _ => false

theorem excMakes_of {K : Frag} {M : Model} {h : Heap} (X : K.In h) {C : Addr} (e : excIn K C = true) : ExcMakes M h C := by
  unfold excIn at e
  split at e
  · rename_i oc od cd sl ho
    simp only [Bool.and_eq_true, Bool.not_eq_true', beq_iff_eq] at e
    obtain ⟨⟨⟨⟨⟨⟨⟨⟨e2, e3⟩, e4⟩, e5⟩, e6⟩, e6a⟩, e6b⟩, e7⟩, e8⟩ := e
    have hc : clsIn K C = some cd := by unfold clsIn; rw [ho]
    have hm : Looks M h (mroOf (.ref C)) cd.mro := (looks_clsIn X hc).andThen .now
    obtain ⟨c, l, hl⟩ : ∃ c l, cd.mro = c :: l := by cases q : cd.mro with | nil => rw [q] at e4; cases e4 | cons c l => exact ⟨c, l, rfl⟩
    have made : Looks M h (Bind.madeBy (.ref C)) (some "Exception.__new__") := by
      intro A Q E s k q
      unfold Bind.madeBy
      refine wpAny_bind (hm A _ E s k ?_)
      rw [hl, List.forIn_cons]
      refine wpAny_bind (wpAny_bind (wpAny_bind (wpAny_bind (wpAny_loadPart (k _ _ (X _ _ ho)) (wpAny_pure ?_)))))
      dsimp only
      rw [← Array.getElem?_toList, e3]
      exact wpAny_pure (wpAny_pure (wpAny_pure q))
    have sub : ∀ (b : Value) (r : Bool), cd.mro.contains b = r → Looks M h (isSubtype (.ref C) b) r := fun b r hb => looks_mroIn X (by unfold mroIn; rw [hc, Option.bind_some, if_neg (by rw [e4]; decide), hb])
    refine ⟨⟨oc, od, cd, sl, X _ _ ho, e2, e4⟩, ⟨_, hm, e4⟩, made, ?_, sub _ _ e5, sub _ _ e6, sub _ _ e6a, sub _ _ e6b, looks_specialIn X e7, looks_instIn X e8⟩
    intro A Q E s k q
    unfold Bind.staticBase
    refine wpAny_bind (hm A _ E s k ?_)
    rw [hl, List.forIn_cons]
    exact wpAny_bind (wpAny_bind (wpAny_bind (made A _ E s k (wpAny_pure (wpAny_pure (wpAny_pure q))))))
  · cases e

section
variable {prog : Program} {w : World} {A : Around} {K : Frag} {C : Addr} {R : Result → Shared → Prop} {h : Heap} {g : Array GenState} {d : Drawn} {t : Nat} {os : OsState}

theorem excNew_args (C : Addr) (rest : List Value) (kw : List (Str × Value)) :
   Bind.checkArgs "Exception.__new__" ⟨.any, "Exception", "Exception", .cls, [⟨"args", .varPos, false⟩, ⟨"kwargs", .varKw, false⟩]⟩ ⟨.ref C :: rest, kw⟩ = pure () := by
  kernel_rfl

theorem exc_new {rest : List Value} {kw : List (Str × Value)} (Y : ExcMakes (model prog w) h C) (hrest : rest.length ≤ sizeLine)
    (hq : R (.ok (.ret (.ref (h.objs.size + 1)))) ⟨(h.push (tupObj rest)).push (excObj C h.objs.size none), g, d, t, os⟩) :
    codeAny (model prog w) A (.call (.builtin "Exception.__new__") ⟨.ref C :: rest, kw⟩) R ⟨h, g, d, t, os⟩ := by
  obtain ⟨⟨oc, od, cd, sl, hC, e2, e4⟩, ⟨mr, mro, hmr⟩, made, base, self, exc, noAttr, noName, call, typ⟩ := Y
  have F := PySem.F.excBase_Exception
  refine codeAny_call_builtin_code (Code.quiet_builtin _ F.quiet) ?_
  simp only [checkBuiltinCall, F.newKind, F.newSplit, F.newRow]
  have args := excNew_args C rest kw
  rw [args]
  repeat (first | simp only [bne_self_eq_false, Bool.false_eq_true, if_false] | lk)
  refine codeAny_builtinAt F.entry ?_
  unfold Builtin.«BaseException.__new__»
  refine PySem.wpAt_bind ?_
  show PySem.wpAt _ _ _ (stack >>= _) _ _ _
  refine PySem.wpAt_bind (PySem.wpAt_stack fun p below => PySem.wpAt_of_wpAny ?_)
  have hends := F.ends
  have hown := F.owner
  wp_walk
  refine PySem.wpAt_of_wpAny ?_
  rw [F.owner]
  have mh : Looks (model prog w) h (Bind.madeHere "BaseException.__new__" (.ref C)) () := base.andThen (made.andThen (Looks.of_pure (by rw [Option.map_some, F.canon]; simp only [bne_self_eq_false, Bool.false_eq_true, if_false])))
  dsimp only
  repeat (first | simp only [bne_self_eq_false, Bool.false_eq_true, if_false] | lk)
  have hC' := Heap.get?_push_of_some (excObj C h.objs.size none) (Heap.get?_push_of_some (tupObj rest) hC)
  rw [if_neg (by rw [List.size_toArray]; omega)]
  show wpAny _ _ (newObjAsIs _ _ _) _ _ _
  unfold newObjAsIs
  refine wpAny_bind (wpAny_alloc (wpAny_pure (wpAny_bind ?_)))
  show wpAny _ _ (newObjAsIs _ _ _) _ _ _
  unfold newObjAsIs classHasDel
  refine wpAny_bind (wpAny_alloc (wpAny_bind (wpAny_bind (wpAny_load hC' (wpAny_pure ?_)))))
  rw [e2]
  refine wpAny_pure (wpAny_pure ?_)
  show R _ _
  rw [Heap.size_push]
  exact hq

theorem exc_core {rest : List Value} {kw : List (Str × Value)} {init : Value} (Y : ExcMakes (model prog w) h C) (hrest : rest.length ≤ sizeLine) (hi : Looks (model prog w) h (typeLookup (.ref C) "__init__") (some init))
    (hb : ∀ self, Looks (model prog w) h (bindSpecial init self) (init, [self]))
    (hq : codeAny (model prog w) (A.under (.builtin "type.__call__" ⟨.ref C :: rest, kw⟩)) (.call init ⟨.ref (h.objs.size + 1) :: rest, kw⟩) (InitBack (h.objs.size + 1) R) ⟨(h.push (tupObj rest)).push (excObj C h.objs.size none), g, d, t, os⟩) :
    codeAny (model prog w) A (.call (.ref C) ⟨rest, kw⟩) R ⟨h, g, d, t, os⟩ := by
  have Y' := Y
  obtain ⟨⟨oc, od, cd, sl, hC, e2, e4⟩, ⟨mr, mro, hmr⟩, made, base, self, exc, noAttr, noName, call, typ⟩ := Y
  refine codeAny_of_tree ?_
  show wpAny _ _ (callAny (.ref C) _) _ _ _
  refine nd_load hC ?_
  show wpAny _ _ (callAny.viaDunder (.ref C) _) _ _ _
  unfold callAny.viaDunder
  refine wpAny_bind (call.at ?_)
  dsimp only
  rw [tc_bind]
  refine wpAny_bind (wpAny_pure (wpAny_bind (wpAny_pure ?_)))
  refine wpAny_pure (a := Fin.again (.call (.builtin "type.__call__") ⟨.ref C :: rest, kw⟩)) (And.intro rfl ?_)
  refine codeAny_call_builtin_at (Code.quiet_builtin _ (by decide +kernel)) entry_typeCall (check_slot tc_kind tc_split typ (tc_args _ _ _) ?_)
  unfold Builtin.«type.__call__»
  repeat (first | simp only [hmr, Bool.false_eq_true, if_false] | with_reducible refine wpAny_call ?_ | lk)
  refine exc_new Y' hrest ?_
  have k : ∀ b o, h.get? b = some o → ((h.push (tupObj rest)).push (excObj C h.objs.size none)).get? b = some o := fun b o e => Heap.get?_push_of_some _ (Heap.get?_push_of_some _ e)
  have hx : ((h.push (tupObj rest)).push (excObj C h.objs.size none)).get? (h.objs.size + 1) = some (excObj C h.objs.size none) := by heap_get
  have t1 : Looks (model prog w) ((h.push (tupObj rest)).push (excObj C h.objs.size none)) (typeOf (.ref (h.objs.size + 1))) (.ref C) := (Looks.ld hx).andThen .now
  have s1 := self.keeps k
  have i1 := hi.keeps k
  have b1 := (hb (.ref (h.objs.size + 1))).keeps k
  unfold isInstance callSpecial? specialOf
  repeat (first | with_reducible refine wpAny_call ?_ | lk)
  refine codeAny_mono hq fun r s' z => ?_
  rcases r with e | (v | _ | _ | _) <;> first | exact z | exact z.elim | skip
  obtain ⟨rfl, z⟩ := z
  exact wpAny_pure (wpAny_pure z)
end
section
variable {prog : Program} {w : World} {A : Around} {K : Frag} {C x : Addr} {s : Shared} {h₀ : Heap} {L : Addr} {m : Str → Option Value} {news : List (Addr × Obj)} {R : Result → Shared → Prop}
theorem exc_K {rest : List Value} {kw : List (Str × Value)} {fI : Addr} (F : Fr h₀ L s.heap m) (N : News h₀ L s.heap news) (X : K.In s.heap) (hm : excIn K C = true) (hrest : rest.length ≤ sizeLine)
    (hi : findIn K (.ref C) "__init__" = some (some (.ref fI))) (hf : typeIn K (.ref fI) = some (.type "function"))
    (h : ∀ x tx h', Fr h₀ L h' m → News h₀ L h' ((x, excObj C tx none) :: (tx, tupObj rest) :: news) → (∀ p ∈ news, p.1 < tx) → tx < x →
      codeAny (model prog w) (A.under (.builtin "type.__call__" ⟨.ref C :: rest, kw⟩)) (.call (.ref fI) ⟨.ref x :: rest, kw⟩) (InitBack x R) { s with heap := h' }) :
    codeAny (model prog w) A (.call (.ref C) ⟨rest, kw⟩) R s := by
  obtain ⟨hh, g, d, t, os⟩ := s
  refine exc_core (excMakes_of X hm) hrest (looks_findIn X hi) (fun self => bind_fn X self hf) (h _ hh.objs.size _ ((F.push _).push _) ?_ (fun p hp => Heap.lt_size (N p hp).1) (Nat.lt_succ_self _))
  have := (N.push F (tupObj rest)).push (F.push _) (excObj C hh.objs.size none)
  rwa [Heap.size_push] at this
end
end Mine
end
section

open PySem PySem.W PyProof.Rows PySem.Calls PySem.Spec Builtin Builtin.ObjectAttr Builtin.Getset_descriptor
set_option maxRecDepth 100000
set_option maxHeartbeats 400000
namespace Mine
section
variable {prog : Program} {w : World} {A : Around} {E : Value → Shared → Prop} {s : Shared} {K : Frag} {x C : Addr} {ox : Obj} {od : Option Obj} {name : Str} {expr fill : Bool} {Q : Value → Shared → Prop}

noncomputable def excGet (K : Frag) (C : Addr) : Bool := findIn K (.ref C) "__getattribute__" == some (some (.builtin "BaseException.__getattribute__")) && findIn K (.ref C) "__getattr__" == some none && subIn K (.ref C) (.type "BaseException") == some true

theorem ga_kind : builtinKind "BaseException.__getattribute__" = some .slot := by decide +kernel
theorem ga_split : splitId "BaseException.__getattribute__" = some ("BaseException", "__getattribute__") := by decide +kernel
theorem ga_plain : plainId "BaseException.__getattribute__" = true := by decide +kernel

theorem getBy_open {tk : Tok} (X : K.In s.heap) (I : InstAt s.heap x ox C od) (hg : excGet K C = true)
    (h : wpAny (model prog w) A.in1 (Builtin.«object.__getattribute__» ⟨[.ref x, .str name tk], []⟩)
      (fun fin s' => match fin with | .done (.ret v) => wpAny (model prog w) A (handedOut v) Q E s' | _ => False)
      (fun e s' => wpAny (model prog w) A (getattributeRaised (.ref x) (.str name tk) (.ref C) e none fill expr) Q E s') s) :
    wpAny (model prog w) A (getAttrBy (.ref x) (.str name tk) fill expr) Q E s := by
  unfold excGet at hg
  simp only [Bool.and_eq_true, beq_iff_eq] at hg
  obtain ⟨⟨hga, hgt⟩, hsub⟩ := hg
  obtain ⟨hh, g, d, t, os⟩ := s
  have L0 := I.type (M := model prog w)
  have L1 := looks_findIn (M := model prog w) X hga
  have L2 := looks_findIn (M := model prog w) X hgt
  have L3 : Looks (model prog w) hh (isInstance (.ref x) (.type "BaseException")) true := L0.andThen (looks_subIn X hsub)
  unfold getAttrBy
  refine wpAny_holding (wpAny_bind (L0.at (wpAny_bind (L1.at ?_))))
  dsimp only
  have e0 : (Value.builtin "BaseException.__getattribute__" == Value.builtin "object.__getattribute__") = false := by decide +kernel
  rw [e0, Bool.and_false]
  unfold getAttrByItsOwn hookBefore
  refine wpAny_bind ?_
  rw [if_pos (by rfl)]
  refine L2.at ?_
  refine wpAny_bind (wpAny_attempt (wpAny_holding ?_))
  unfold callGetattribute
  rw [if_neg (by simp [onTheHeap])]
  unfold boundAndCalled
  have hb := F.attr_Exception.ga.bind (.ref x)
  rw [hb]
  refine wpAny_bind (wpAny_pure ?_)
  refine wpAny_call ?_
  refine codeAny_call_builtin ga_plain F.entry_bexc_ga ?_
  refine @check_slot (model prog w) _ _ ⟨hh, g, d, t, os⟩ "BaseException.__getattribute__" "BaseException" "__getattribute__" (.ref x) [.str name tk] [] _ ga_kind ga_split L3 (F.args_bexc_ga (.ref x) (.str name tk)) ?_
  refine wpAny_mono h (fun fin s' z => ?_) fun _ _ z => z
  rcases fin with (_ | _ | _ | _) | _ <;> first | exact z | exact z.elim

theorem getX_value {v : Value} (X : K.In s.heap) (I : InstAt s.heap x ox C od) (hg : excGet K C = true)
    (hf : findObj K C od name = some (.value v)) (hh : handedIn v = true) (h : Q v { s with toks := s.toks + 1 }) : wpAny (model prog w) A (getAttr (.ref x) name expr) Q E s := by
  unfold getAttr
  refine wpAny_bind (wpAny_mkText ?_)
  refine getBy_open (s := { s with toks := s.toks + 1 }) X I hg ?_
  obtain ⟨hh', g, d, t, os⟩ := s
  have L0 := I.type (M := model prog w)
  have L1 := looks_find (M := model prog w) X I hf
  unfold Builtin.«object.__getattribute__»
  repeat lk
  show wpAny _ _ (handedOut v) _ _ _
  rw [handedOut_of hh]; exact wpAny_pure h

theorem getX_args {t0 : Addr} {vs : Array Value} (X : K.In s.heap) (I : InstAt s.heap x ox C od) (hg : excGet K C = true)
    (hf : findObj K C od "args" = some (.bind (.builtin "getset_descriptor.__get__") (.builtin "BaseException.args"))) (hd : ox.data = .fields vs) (h0 : vs[0]? = some (.ref t0))
    (h : Q (.ref t0) { s with toks := s.toks + 1 }) : wpAny (model prog w) A (getAttr (.ref x) "args" expr) Q E s := by
  unfold getAttr
  refine wpAny_bind (wpAny_mkText ?_)
  refine getBy_open (s := { s with toks := s.toks + 1 }) X I hg ?_
  obtain ⟨hh', g, d, t, os⟩ := s
  have L0 := I.type (M := model prog w)
  have L1 := looks_find (M := model prog w) X I hf
  have hg' := hg
  unfold excGet at hg'
  simp only [Bool.and_eq_true, beq_iff_eq] at hg'
  obtain ⟨⟨hga, hgt⟩, hsub⟩ := hg'
  have L3 : Looks (model prog w) hh' (isInstance (.ref x) (.type "BaseException")) true := L0.andThen (looks_subIn X hsub)
  unfold Builtin.«object.__getattribute__»
  repeat (first | with_reducible refine wpAny_call ?_ | lk)
  have hT5 : (⟨hh', g, d, t + 1, os⟩ : Shared).TypeIs (.builtin "BaseException.args") "getset_descriptor" := F.typeOf_bexc_args
  refine codeAny_call_builtin F.slot_gs_get.plain F.entry_gs_get (F.slot_gs_get.check _ _ _ _ _ _ _ _ hT5 (F.args_gs_get _ _ _) ?_)
  unfold Builtin.«getset_descriptor.__get__» descrGet
  rw [dga_cls]
  refine wpAny_bind (wpAny_pure ?_)
  unfold descrGetter descrCheckInstance descrNameAndClass
  have e5 : (descrOwnerAndName "BaseException.args") = ("BaseException", "args") := by decide +kernel
  dsimp only [given]
  rw [if_neg (by simp)]
  dsimp only
  rw [e5]
  repeat (first | with_reducible refine wpAny_call ?_ | lk)
  refine ⟨Code.quiet_builtin _ (by decide +kernel), codeAny_builtin F.entry_bexc_args ?_⟩
  unfold Builtin.«BaseException.args»
  have hnd : (Value.ref t0 == doubtfulMember) = false := by first | rfl | decide | simp [doubtfulMember, rawInt]
  have hx := I.at_
  obtain ⟨oc, od', oda, osl⟩ := ox
  dsimp only at hd
  subst hd
  have f0 := looks_field (M := model prog w) hx 0 h0
  repeat lk
  exact h

noncomputable def nameOk (K : Frag) (C : Addr) : Bool := match K.lookup C with
  | some ⟨_, _, .cls cd, _⟩ => decide (Array.foldl (fun k c => k + (Str.utf8Of c).length) 0 cd.name.cps ≤ 100) && decide (cd.name.toString.length ≤ 60)
  | _ => false
theorem msg_len (a b c : String) (hb : b.length ≤ 60) (ha : a.length = 1) (hc : c.length ≤ 29) : (toString a ++ toString b ++ toString c).length ≤ 90 := by
  simp only [toString, String.length_append]; omega

theorem getX_miss {tk : Tok} (hA : A.handled = none) (X : K.In s.heap) (I : InstAt s.heap x ox C od) (hg : excGet K C = true)
    (hf : findObj K C od name = some .missing) (hnm : nameOk K C = true) (hn : name.length ≤ 100)
    (h : ∀ h' tk' e, Heap.NewExcOf s.heap h' e "AttributeError" → E (.ref e) { s with heap := h', toks := tk' }) : wpAny (model prog w) A (getAttrBy (.ref x) (.str name tk) false expr) Q E s := by
  refine getBy_open X I hg ?_
  obtain ⟨hh', g, d, t, os⟩ := s
  have L0 := I.type (M := model prog w)
  have L1 := looks_find (M := model prog w) X I hf
  unfold Builtin.«object.__getattribute__»
  repeat lk
  unfold nameOk at hnm
  split at hnm
  · rename_i oc odd cd osl hC
    simp only [Bool.and_eq_true, decide_eq_true_eq] at hnm
    obtain ⟨h1, h2⟩ := hnm
    refine nd_load (X _ _ hC) ?_
    refine wpAny_pure ?_
    refine wpAny_pure ?_
    dsimp only
    rw [if_pos h1]
    refine wpAny_pure ?_
    refine wpAny_raiseAttrError hA (fun h' tk' e hx => ?_) (attrMsg_fits (msg_len _ _ _ h2 (by decide) (by decide)) (by rw [sizeLine_eq]; omega))
    have f1 := sub_AttributeError
    obtain ⟨t', u', he⟩ := hx.there
    show wpAny _ _ (getattributeRaised _ _ _ _ _ _ _) _ _ _
    unfold getattributeRaised
    have L5 : Looks (model prog w) h' (isInstance (.ref e) (.type "AttributeError")) true := ((Looks.ld (part := none) he).andThen .now).andThen (Looks.of_pure f1)
    refine wpAny_bind (L5.at ?_)
    repeat lk
    refine wpAny_throw ?_
    exact h _ _ _ hx.of
  · cases hnm

theorem getX_missOpt {tk : Tok} {Q : Option Value → Shared → Prop} (hA : A.handled = none) (X : K.In s.heap) (I : InstAt s.heap x ox C od) (hg : excGet K C = true)
    (hf : findObj K C od name = some .missing) (hnm : nameOk K C = true) (hn : name.length ≤ 100)
    (h : ∀ h' tk', (∀ b o, s.heap.get? b = some o → h'.get? b = some o) → Q none { s with heap := h', toks := tk' }) : wpAny (model prog w) A (getAttrBy? (.ref x) (.str name tk)) Q E s := by
  unfold getAttrBy?
  refine wpAny_bind (wpAny_attempt ?_)
  refine getX_miss hA X I hg hf hnm hn (fun h' tk' e hx => ?_)
  obtain ⟨oe, va, he, hc, hrest⟩ := hx.there
  have f1 := sub_AttributeError
  have L5 : Looks (model prog w) h' (isInstance (.ref e) (.type "AttributeError")) true := ((Looks.ld (part := none) he).andThen .now).andThen (by rw [hc]; exact Looks.of_pure f1)
  dsimp only
  repeat lk
  exact h _ _ hx.keeps

theorem hasattr_kind : builtinKind "hasattr" = none := by decide +kernel
theorem hasattr_plain : plainId "hasattr" = true := by decide +kernel
theorem hasattr_entry : entryFor table "hasattr" = some Builtin.«hasattr» := entryFor_of_tree (by kernel_rfl)
theorem hasattr_miss {tk : Tok} {h₀ : Heap} {L : Addr} {m : Str → Option Value} {news : List (Addr × Obj)} (F : Fr h₀ L s.heap m) (N : News h₀ L s.heap news) (hA : A.handled = none) (X : K.In s.heap) (I : InstAt s.heap x ox C od) (hg : excGet K C = true) (hmod : subIn K (.ref C) (.type "module") = some false)
    (hf : findObj K C od name = some .missing) (hnm : nameOk K C = true) (hn : name.length ≤ 100)
    (h : ∀ h' tk', Fr h₀ L h' m → News h₀ L h' news → Q (.bool false) { s with heap := h', toks := tk' }) : wpAny (model prog w) A (call (.builtin "hasattr") [.ref x, .str name tk]) Q E s := by
  refine wpAny_call (codeAny_call_builtin hasattr_plain hasattr_entry ?_)
  unfold checkBuiltinCall
  rw [hasattr_kind]
  obtain ⟨hh', g, d, t, os⟩ := s
  have L0 := I.type (M := model prog w)
  have Lm : Looks (model prog w) hh' (isInstance (.ref x) (.type "module")) false := L0.andThen (looks_subIn X hmod)
  have fin : ∀ h' tk', (∀ b o, hh'.get? b = some o → h'.get? b = some o) → Q (.bool false) ⟨h', g, d, tk', os⟩ := fun h' tk' k => h h' tk' (F.keeps k) (N.grown k)
  have hA' : A.in1.handled = none := hA
  repeat (first | with_reducible refine getX_missOpt hA' X I hg hf hnm hn ?_ | lk)
  intro h' tk' k
  repeat lk
  exact fin h' tk' k
end
end Mine
end
section

open PySem PySem.W PyProof.Rows PySem.Calls PySem.Spec Builtin Builtin.ObjectAttr Builtin.Getset_descriptor Builtin.BaseException
set_option maxRecDepth 100000
set_option maxHeartbeats 400000
namespace Mine
section
variable {prog : Program} {w : World} {A : Around} {E : Value → Shared → Prop} {s : Shared} {K : Frag} {x C : Addr} {name : Str} {expr fill : Bool} {h₀ : Heap} {L : Addr} {m : Str → Option Value} {news : List (Addr × Obj)} {R : Result → Shared → Prop}

noncomputable def excMro : List Value → Bool
  | [.type a, .type b, .type c] => a == "Exception" && b == "BaseException" && c == "object"
  | .ref _ :: r => excMro r
  | _ => false
theorem refuse_exc (self : Value) : ∀ {l : List Value}, excMro l = true → refuseLoop self "__setattr__" l = pure ()
  | [.type a, .type b, .type c], e => by
    simp only [excMro, Bool.and_eq_true, beq_iff_eq] at e
    obtain ⟨⟨rfl, rfl⟩, rfl⟩ := e
    exact PySem.F.store_Exception.passes self
  | .ref c :: r, e => by rw [refuseLoop_ref]; exact refuse_exc self (by unfold excMro at e; exact e)
theorem excMro_has : ∀ {l : List Value}, excMro l = true → l.contains (.type "object") = true
  | [.type a, .type b, .type c], e => by
    simp only [excMro, Bool.and_eq_true, beq_iff_eq] at e
    obtain ⟨⟨rfl, rfl⟩, rfl⟩ := e; simp
  | .ref c :: r, e => by rw [List.contains_cons, excMro_has (l := r) (by unfold excMro at e; exact e), Bool.or_true]
noncomputable def excOver (K : Frag) (C : Addr) : Bool := (clsIn K C).any fun cd => excMro cd.mro

theorem osaX_open {ox : Obj} {od : Option Obj} {name : Str} {tk : Tok} {v : Value} {r : Option Value} (X : K.In s.heap) (I : InstAt s.heap x ox C od) (hp : excOver K C = true) (ht : takerIn K C name = some r)
    (h : ∀ b, wpAny (model prog w) A.in1 (match r with | some a => setByDescriptor a (.ref x) v | none => storeInOwnDict (.ref x) (.ref C) (.str name tk) name v b)
      (fun fin s' => match fin with | .done f => R (.ok f) s' | .again c' => c'.quiet = true ∧ codeAny (model prog w) A c' R s') (fun e s' => R (.error e) s') s) :
    codeAny (model prog w) A (.call (.builtin "object.__setattr__") ⟨[.ref x, .str name tk, v], []⟩) R s := by
  have SF := PySem.F.store_object
  obtain ⟨cd, hc, ho⟩ := any_some hp
  have ne : cd.mro.isEmpty = false := by cases q : cd.mro with | nil => rw [q] at ho; cases ho | cons _ _ => rfl
  have sub : Looks (model prog w) s.heap (isInstance (.ref x) (.type "object")) true := I.type.andThen (looks_mroIn X (by unfold mroIn; rw [hc, Option.bind_some, if_neg (by rw [ne]; decide), excMro_has ho]))
  refine codeAny_call_builtin SF.slot.plain SF.entry (@check_slot (model prog w) _ _ s "object.__setattr__" "object" "__setattr__" (.ref x) [.str name tk, v] [] _ SF.kind SF.split sub (SF.args (.ref x) (.str name tk) v) ?_)
  obtain ⟨attr, ha, hr⟩ := Option.bind_eq_some_iff.mp ht
  have hm : Looks (model prog w) s.heap (mroOf (.ref C)) cd.mro := (looks_clsIn X hc).andThen .now
  have L3 : Looks (model prog w) s.heap (storeTaker? attr) r := by
    cases attr with
    | none => cases hr; exact .now
    | some a =>
      obtain ⟨b, hb, rfl⟩ := Option.map_eq_some_iff.mp hr
      refine (looks_takesIn X hb).andThen ?_
      cases b <;> exact .now
  rw [osa_eq, refuse_eq]
  refine wpAny_bind (wpAny_bind (I.type.here (wpAny_bind (hm.here ?_))))
  rw [refuse_exc _ ho]
  refine wpAny_pure (wpAny_bind (I.type.here (wpAny_bind ((looks_findIn X ha).here (wpAny_bind (L3.here ?_))))))
  exact h _

theorem osaX_dict {ox od od' : Obj} {dx : Addr} {name : Str} {tk : Tok} {v : Value} {pre post : List (Addr × Obj)} {es : List DictEntry} {n : Nat} (F : Fr h₀ L s.heap m) (N : News h₀ L s.heap (pre ++ (dx, od) :: post)) (X : K.In s.heap)
    (I : InstAt s.heap x ox C (some od)) (hd : ox.dict = some dx) (hp : excOver K C = true) (ht : takerIn K C name = some none) (hh : (clsIn K C).any (·.hasDict) = true)
    (hl : (lookIn name od).isSome = true) (h1 : ∀ p ∈ pre, p.1 ≠ dx) (h2 : ∀ p ∈ post, p.1 ≠ dx)
    (e : Obj.putName name (PyData.keyHash w.params name) (.str name s.toks) v od = od') (e' : od'.data = .dict es.toArray n) (hz : es.length ≤ 1000)
    (h : ∀ h', Fr h₀ L h' m → News h₀ L h' (pre ++ (dx, od') :: post) → R (.ok (.ret .none)) { s with heap := h', toks := s.toks + 1 }) :
    codeAny (model prog w) A (.call (.builtin "object.__setattr__") ⟨[.ref x, .str name tk, v], []⟩) R s := by
  refine osaX_open X I hp ht fun b => ?_
  obtain ⟨cd, hc, hd'⟩ := any_some hh
  obtain ⟨U1, U2⟩ := news_upd (f := Obj.putName name (PyData.keyHash w.params name) (.str name s.toks) v) F N h1 h2 e (by obtain ⟨_, _, dd, _⟩ := od'; cases e'; rfl)
  have D := (N (dx, od) (by simp)).1
  have D' := (U2 (dx, od') (by simp)).1
  obtain ⟨hx, hcl, hn, -⟩ := I
  obtain ⟨oc, odi, oda, osl⟩ := ox
  dsimp only at hcl hd
  subst hcl hd
  refine wpAny_bind (wpAny_pure (wpAny_bind (wpAny_bind (wpAny_loadPart hx (wpAny_bind ((looks_clsIn X hc).here ?_))))))
  rw [hd']
  refine wpAny_pure (a := some dx) (wpAny_bind (wpAny_pure (wpAny_bind ?_)))
  unfold nsSet
  refine wpAny_bind (wpAny_bind (wpAny_askSetting (wpAny_pure (wpAny_bind (wpAny_mkText (wpAny_bind (wpAny_loadPart D ?_)))))))
  unfold lookIn at hl
  split at hl
  · rename_i es₀ n₀ q
    rw [q]
    dsimp only
    have c : (!es₀.any (·.key.isStr name) && es₀.any (·.refKey)) = false := by
      rw [← Array.any_toList, ← Array.any_toList]
      split at hl
      · rename_i en he
        rw [List.any_eq_true.mpr ⟨en, List.mem_of_find?_eq_some he, List.find?_some he⟩]; rfl
      · split at hl
        · cases hl
        · rename_i z; rw [Bool.not_eq_true] at z; rw [z, Bool.and_false]
    rw [aRefKeyMayBeTheName_at, c]
    refine wpAny_updatePart D ?_
    refine wpAny_bind (wpAny_lookBehind D' (by rw [e']; exact pastItsLine_dict (by rw [List.size_toArray, sizeLine_eq]; omega)) ?_)
    exact wpAny_pure (h _ U1 U2)
  · cases hl

/-- the first store: the instance has no dict yet -/
theorem osaX_first {t0 : Addr} {name : Str} {tk : Tok} {v : Value} {pre post : List (Addr × Obj)} (F : Fr h₀ L s.heap m) (N : News h₀ L s.heap (pre ++ (x, excObj C t0 none) :: post)) (X : K.In s.heap)
    (hp : excOver K C = true) (ht : takerIn K C name = some none) (hh : (clsIn K C).any (·.hasDict) = true)
    (h1 : ∀ p ∈ pre, p.1 ≠ x) (h2 : ∀ p ∈ post, p.1 ≠ x)
    (h : ∀ dx h', Fr h₀ L h' m → News h₀ L h' ((dx, dictOf [⟨PyData.keyHash w.params name, .str name s.toks, v⟩] 1) :: (pre ++ (x, excObj C t0 (some dx)) :: post)) → (∀ p ∈ pre ++ (x, excObj C t0 none) :: post, p.1 < dx) → R (.ok (.ret .none)) { s with heap := h', toks := s.toks + 1 }) :
    codeAny (model prog w) A (.call (.builtin "object.__setattr__") ⟨[.ref x, .str name tk, v], []⟩) R s := by
  have hx := (N (x, excObj C t0 none) (by simp)).1
  have I : InstAt s.heap x (excObj C t0 none) C none := ⟨hx, rfl, rfl, trivial⟩
  refine osaX_open X I hp ht fun b => ?_
  obtain ⟨cd, hc, hd'⟩ := any_some hh
  refine wpAny_bind (wpAny_pure (wpAny_bind (wpAny_bind (wpAny_loadPart hx (wpAny_bind ((looks_clsIn X hc).here ?_))))))
  rw [hd']
  rw [if_neg (by simp)]
  dsimp only
  rw [if_neg (by simp [typeHasDict])]
  -- the dict is allocated
  have F1 := F.push (dictOf [] 0)
  have N1 := N.push F (dictOf [] 0)
  have ltd : ∀ p ∈ pre ++ (x, excObj C t0 none) :: post, p.1 < s.heap.objs.size := fun p hp => Heap.lt_size (N p hp).1
  refine wpAny_bind (wpAny_alloc ?_)
  have hx1 := (N1 (x, excObj C t0 none) (by simp)).1
  refine wpAny_bind (wpAny_update hx1 ?_)
  obtain ⟨U1, U2⟩ := news_upd (pre := (s.heap.objs.size, dictOf [] 0) :: pre) (post := post) (o := excObj C t0 none) (o' := excObj C t0 (some s.heap.objs.size))
    (f := fun o => { o with dict := some s.heap.objs.size }) F1 N1 (fun p hp => by
      rcases List.mem_cons.mp hp with rfl | hp
      · exact Nat.ne_of_gt (ltd (x, excObj C t0 none) (by simp))
      · exact h1 p hp) h2 rfl rfl
  refine wpAny_pure ?_
  dsimp only
  refine wpAny_bind (wpAny_pure (wpAny_bind ?_))
  unfold nsSet
  have D := (U2 (s.heap.objs.size, dictOf [] 0) (by simp)).1
  refine wpAny_bind (wpAny_bind (wpAny_askSetting (wpAny_pure (wpAny_bind (wpAny_mkText (wpAny_bind (wpAny_loadPart D ?_)))))))
  obtain ⟨V1, V2⟩ := news_upd (pre := []) (post := pre ++ (x, excObj C t0 (some s.heap.objs.size)) :: post) (o := dictOf [] 0) (o' := dictOf [⟨PyData.keyHash w.params name, .str name s.toks, v⟩] 1)
    (f := Obj.putName name (PyData.keyHash w.params name) (.str name s.toks) v) U1 U2 (fun p hp => nomatch hp) (fun p hp => by
      rcases List.mem_append.mp hp with hp | hp
      · exact Nat.ne_of_lt (ltd p (by simp [hp]))
      · rcases List.mem_cons.mp hp with rfl | hp
        · exact Nat.ne_of_lt (ltd (x, excObj C t0 none) (by simp))
        · exact Nat.ne_of_lt (ltd p (by simp [hp]))) (by rw [putName_dict]; rfl) rfl
  have D' := (V2 (s.heap.objs.size, dictOf [⟨PyData.keyHash w.params name, .str name s.toks, v⟩] 1) (by simp)).1
  have c : (!(#[] : Array DictEntry).any (·.key.isStr name) && (#[] : Array DictEntry).any (·.refKey)) = false := by simp
  dsimp only
  rw [aRefKeyMayBeTheName_at, c]
  refine wpAny_updatePart D ?_
  refine wpAny_bind (wpAny_lookBehind D' (pastItsLine_dict (by rw [List.size_toArray, sizeLine_eq]; simp)) ?_)
  exact wpAny_pure (h _ _ V1 V2 ltd)

theorem entry_argsSet : entryFor table "BaseException.args#set" = some Builtin.«BaseException.args#set» := entryFor_of_tree (by kernel_rfl)
theorem entry_gs_set : entryFor table "getset_descriptor.__set__" = some Builtin.«getset_descriptor.__set__» := entryFor_of_tree (by kernel_rfl)
theorem args_gs_set (a b c : Value) : argsOk "getset_descriptor.__set__" ⟨[a, b, c], []⟩ := by unfold argsOk; kernel_rfl
theorem osaX_args {t0 t1 : Addr} {d : Option Addr} {od : Option Obj} {tk : Tok} {vs : List Value} {k : Nat} {pre post : List (Addr × Obj)} (F : Fr h₀ L s.heap m) (N : News h₀ L s.heap (pre ++ (x, excObj C t0 d) :: post)) (X : K.In s.heap)
    (I : InstAt s.heap x (excObj C t0 d) C od) (hsub : subIn K (.ref C) (.type "BaseException") = some true)
    (hp : excOver K C = true) (ht : takerIn K C "args" = some (some (.builtin "BaseException.args")))
    (h1 : ∀ p ∈ pre, p.1 ≠ x) (h2 : ∀ p ∈ post, p.1 ≠ x) (hv : s.heap.get? t1 = some { cls := .type "tuple", data := .seq vs.toArray k })
    (h : ∀ h', Fr h₀ L h' m → News h₀ L h' (pre ++ (x, excObj C t1 d) :: post) → R (.ok (.ret .none)) { s with heap := h' }) :
    codeAny (model prog w) A (.call (.builtin "object.__setattr__") ⟨[.ref x, .str "args" tk, .ref t1], []⟩) R s := by
  have hx := (N (x, excObj C t0 d) (by simp)).1
  refine osaX_open X I hp ht fun b => ?_
  obtain ⟨U1, U2⟩ := news_upd (o := excObj C t0 d) (o' := excObj C t1 d) (f := Obj.mapFields (·.setIfInBounds 0 (.ref t1))) F N h1 h2 rfl rfl
  obtain ⟨hh, g, dr, t, os⟩ := s
  have L0 := I.type (M := model prog w)
  have L3 : Looks (model prog w) hh (isInstance (.ref x) (.type "BaseException")) true := L0.andThen (looks_subIn X hsub)
  refine wpAny_bind (wpAny_rule (wpAny_bind (wpAny_holding ?_)))
  unfold callSpecial? specialOf
  have f1 : typeOf (.builtin "BaseException.args") = pure (.type "getset_descriptor") := PySem.F.typeOf_bexc_args
  have f2 := PySem.F.slot_gs_set.lookup
  have f3 := PySem.F.slot_gs_set.bind (.builtin "BaseException.args")
  refine wpAny_bind (wpAny_bind (wpAny_of_eq f1 (wpAny_of_eq f2 (wpAny_holding (wpAny_bind (wpAny_of_eq f3 (wpAny_bind (wpAny_call ?_))))))))
  have hT5 : (⟨hh, g, dr, t, os⟩ : Shared).TypeIs (.builtin "BaseException.args") "getset_descriptor" := PySem.F.typeOf_bexc_args
  refine codeAny_call_builtin PySem.F.slot_gs_set.plain entry_gs_set (PySem.F.slot_gs_set.check _ _ _ _ _ _ _ _ hT5 (args_gs_set _ _ _) ?_)
  unfold Builtin.«getset_descriptor.__set__» descrSet descrStoreThrough descrCheckInstance descrNameAndClass descrItself
  have e5 : (descrOwnerAndName "BaseException.args") = ("BaseException", "args") := by decide +kernel
  rw [if_neg (by simp)]
  dsimp only [List.cons_append, List.nil_append]
  simp only [e5]
  repeat lk
  refine ⟨Code.quiet_builtin _ (by decide +kernel), codeAny_builtin entry_argsSet ?_⟩
  unfold Builtin.«BaseException.args#set» bexcPut
  refine wpAny_bind (call_tuple_same ⟨_, hv, rfl, k, rfl⟩ ?_)
  have f0 : Looks (model prog w) hh (field (.ref x) 0) (.ref t0) := looks_field (M := model prog w) hx 0 rfl
  refine wpAny_bind (wpAny_bind (f0.at ?_))
  have fin := h _ U1 U2
  unfold setField updateField
  refine wpAny_bind (wpAny_bind (wpAny_load hx ?_))
  dsimp only
  rw [if_pos (by simp)]
  refine wpAny_update hx ?_
  unfold letGo letGo
  repeat lk
  exact fin

theorem setX_plain {ox : Obj} {od : Option Obj} {name : Str} {v : Value} {Q : Unit → Shared → Prop} (X : K.In s.heap) (I : InstAt s.heap x ox C od)
    (hs : findIn K (.ref C) "__setattr__" = some (some (.builtin "object.__setattr__")))
    (h : codeAny (model prog w) A (.call (.builtin "object.__setattr__") ⟨[.ref x, .str name s.toks, v], []⟩) (fun r s' => match r with | .ok (.ret _) => Q () s' | .ok _ => False | .error e => E e s') { s with toks := s.toks + 1 }) :
    wpAny (model prog w) A (setAttr (.ref x) name v) Q E s := set_plain X I hs h

theorem exInit_kind : builtinKind "Exception.__init__" = some .slot := by decide +kernel
theorem exInit_split : splitId "Exception.__init__" = some ("Exception", "__init__") := by decide +kernel
theorem exInit_plain : plainId "Exception.__init__" = true := by decide +kernel
theorem exInit_K {t0 : Addr} {d : Option Addr} {od : Option Obj} {v : Value} {Q : Value → Shared → Prop} {pre post : List (Addr × Obj)} (F : Fr h₀ L s.heap m) (N : News h₀ L s.heap (pre ++ (x, excObj C t0 d) :: post)) (X : K.In s.heap)
    (I : InstAt s.heap x (excObj C t0 d) C od) (hsub : subIn K (.ref C) (.type "Exception") = some true) (hov : excOver K C = true)
    (h1 : ∀ p ∈ pre, p.1 ≠ x) (h2 : ∀ p ∈ post, p.1 ≠ x)
    (h : ∀ t1 h', Fr h₀ L h' m → News h₀ L h' ((t1, tupObj [v]) :: (pre ++ (x, excObj C t1 d) :: post)) → (∀ p ∈ pre ++ (x, excObj C t0 d) :: post, p.1 < t1) → Q .none { s with heap := h' }) :
    wpAny (model prog w) A (call (.builtin "Exception.__init__") [.ref x, v]) Q E s := by
  have F1 := F.push (tupObj [v])
  have N1 := N.push F (tupObj [v])
  have lt1 : ∀ p ∈ pre ++ (x, excObj C t0 d) :: post, p.1 < s.heap.objs.size := fun p hp => Heap.lt_size (N p hp).1
  have hx1 := (N1 (x, excObj C t0 d) (by simp)).1
  obtain ⟨U1, U2⟩ := news_upd (pre := (s.heap.objs.size, tupObj [v]) :: pre) (post := post) (o := excObj C t0 d) (o' := excObj C s.heap.objs.size d)
    (f := Obj.mapFields (·.setIfInBounds 0 (.ref s.heap.objs.size))) F1 N1 (fun p hp => by
      rcases List.mem_cons.mp hp with rfl | hp
      · exact Nat.ne_of_gt (lt1 (x, excObj C t0 d) (by simp))
      · exact h1 p hp) h2 rfl rfl
  obtain ⟨hh, g, dr, t, os⟩ := s
  have L0 := I.type (M := model prog w)
  have L3 : Looks (model prog w) hh (isInstance (.ref x) (.type "Exception")) true := L0.andThen (looks_subIn X hsub)
  refine wpAny_call (codeAny_call_builtin exInit_plain PySem.F.excBase_Exception.initEntry ?_)
  obtain ⟨cd, hcd, hov⟩ := any_some hov
  have hC : ∃ c d sl, hh.get? C = some ⟨c, d, .cls cd, sl⟩ := by
    unfold clsIn at hcd
    split at hcd
    · rename_i c d sl ho; cases hcd; exact ⟨_, _, _, X _ _ ho⟩
    · cases hcd
  obtain ⟨cC, dC, slC, hC⟩ := hC
  simp only [checkBuiltinCall, exInit_kind, exInit_split, PySem.F.excBase_Exception.initRow]
  refine wpAny_bind (L3.at ?_)
  rw [if_neg (by simp)]
  unfold Bind.checkArgs
  have fin := h _ _ U1 U2 lt1
  repeat lk
  refine wpAny_update hx1 ?_
  repeat lk
  exact fin
end
end Mine
end
section

open PySem PySem.W PyProof.Rows PySem.Calls PySem.Spec Builtin Builtin.Str
set_option maxRecDepth 100000
set_option maxHeartbeats 400000
namespace Mine
/-- repr of v is t, at every heap that keeps h -/
noncomputable def Shows (prog : Program) (w : World) (h : Heap) (v : Value) (t : PySem.Str) : Prop :=
  ∀ (A : Around) (E : Value → Shared → Prop) (s : Shared) (Q : Value → Shared → Prop), A.guards = some [] → A.units + 100 < cLine → (∀ b o, h.get? b = some o → s.heap.get? b = some o) →
    (∀ h' u tk, (∀ b o, s.heap.get? b = some o → h'.get? b = some o) → Q (.str t u) { s with heap := h', toks := tk }) → wpAny (model prog w) A (pyReprObj v) Q E s
section
variable {prog : Program} {w : World} {h : Heap}
theorem Shows.str (x : PySem.Str) (u : Tok) (hsz : (reprText x).length ≤ sizeLine) : Shows prog w h (.str x u) (reprText x) :=
  fun A E s Q _ _ _ hQ => wpAny_pyReprObj_str (hQ s.heap _ _ fun _ _ e => e) hsz
theorem Shows.int (n : Int) (u : Tok) (hn : n.natAbs.log2 < 1920) : Shows prog w h (.int n u) (PySem.Str.ofString (toString n)) :=
  fun A E s Q _ _ _ hQ => wpAny_pyReprObj_gives (typeIs_int s n u) F.slot_int_repr F.entry_int_repr (F.args_int_repr_1 _) (gives_int_repr n u hn) (hQ s.heap _ _ fun _ _ e => e) (hx := int_text_fits hn)
theorem Shows.none : Shows prog w h .none (PySem.Str.ofString "None") :=
  fun A E s Q _ _ _ hQ => pyReprObj_none (hQ s.heap _ _ fun _ _ e => e)
theorem Shows.bool (b : Bool) : Shows prog w h (.bool b) (if b then PySem.Str.ofString "True" else PySem.Str.ofString "False") :=
  fun A E s Q _ _ _ hQ => by
    refine pyReprObj_bool ?_
    have := hQ s.heap s.toks (s.toks + 1) fun _ _ e => e
    cases b <;> exact this
theorem Shows.reads {a : Addr} {d : PyData} {as : List Addr} (r : Reads h (.ref a) d as) (hs : d.showable = true) (hnd : d.hasDict = false) (hdep : d.depth ≤ 90) (hsz : d.shown.length ≤ sizeLine) : Shows prog w h (.ref a) d.shown :=
  fun A E s Q hg hu hk hQ => pyReprObj_of_reads r hs (fun e => by rw [hnd] at e; cases e) hg (by omega) hk (fun h' u tk k => hQ h' u tk k) hsz
end

/-- a field of a format: its conversion, its value, its text -/
noncomputable def Fld (prog : Program) (w : World) (h : Heap) (c : Option Nat) (v : Value) (t : PySem.Str) : Prop :=
  ∀ (A : Around) (E : Value → Shared → Prop) (s : Shared) (Q : Value → Shared → Prop), A.guards = some [] → A.units + 100 < cLine → (∀ b o, h.get? b = some o → s.heap.get? b = some o) →
    (∀ h' u tk, (∀ b o, s.heap.get? b = some o → h'.get? b = some o) → Q (.str t u) { s with heap := h', toks := tk }) →
    wpAny (model prog w) A (convertField "str.format" v c) (fun obj s' => wpAny (model prog w) A (Builtin.Str.formatOf obj PySem.Str.empty) Q E s') E s
theorem Fld.keeps {prog : Program} {w : World} {h h' : Heap} {c : Option Nat} {v : Value} {t : PySem.Str} (x : Fld prog w h c v t) (k : ∀ b o, h.get? b = some o → h'.get? b = some o) : Fld prog w h' c v t :=
  fun A E s Q hg hu hk hQ => x A E s Q hg hu (fun b o e => hk b o (k b o e)) hQ
theorem Fld.repr {prog : Program} {w : World} {h : Heap} {v : Value} {t : PySem.Str} (x : Shows prog w h v t) : Fld prog w h (some 114) v t :=
  fun A E s Q hg hu hk hQ => x A E s _ hg hu hk (fun h' u tk k => wpAny_of_eq (KFm.formatOf_str _ _) (hQ h' u tk k))
theorem Fld.int {prog : Program} {w : World} {h : Heap} {n : Int} {u : Tok} (hn : n.natAbs.log2 < 1920) : Fld prog w h none (.int n u) (PySem.Str.ofString (toString n)) :=
  fun A E s Q hg hu hk hQ => wpAny_pure (KFm.formatOf_int hn (fun t' k => hQ s.heap _ _ fun _ _ e => e))

noncomputable abbrev Piece := List Nat × Option (Option Nat)
noncomputable def parse (n0 : Nat) : Nat → List Nat → Option (List Piece)
  | _, [] => some []
  | 0, _ :: _ => none
  | n + 1, r => match nextMarkup r with
    | .ok (lit, none, rest) => if lit.length == n0 then none else (parse n0 n rest).map ((lit, none) :: ·)
    | .ok (lit, some f, rest) => if lit.length == n0 then none else if f.name.isEmpty && f.spec.isEmpty && !f.nested then (parse n0 n rest).map ((lit, some f.conversion) :: ·) else none
    | .error _ => none
noncomputable def glue : PySem.Str → List Piece → List PySem.Str → PySem.Str
  | T, [], _ => T
  | T, (lit, none) :: ps, ts => glue (T ++ ⟨lit.toArray⟩) ps ts
  | T, (lit, some _) :: ps, t :: ts => glue ((T ++ ⟨lit.toArray⟩) ++ t) ps ts
  | T, (_, some _) :: _, [] => T
inductive Flds (prog : Program) (w : World) (h : Heap) : List Piece → List Value → List PySem.Str → Prop
  | nil {vs ts} : Flds prog w h [] vs ts
  | lit {l ps vs ts} : Flds prog w h ps vs ts → Flds prog w h ((l, none) :: ps) vs ts
  | fld {l c ps v vs t ts} : Fld prog w h c v t → Flds prog w h ps vs ts → Flds prog w h ((l, some c) :: ps) (v :: vs) (t :: ts)
theorem Flds.keeps {prog : Program} {w : World} {h h' : Heap} {ps vs ts} (x : Flds prog w h ps vs ts) (k : ∀ b o, h.get? b = some o → h'.get? b = some o) : Flds prog w h' ps vs ts := by
  induction x with
  | nil => exact .nil
  | lit _ ih => exact .lit ih
  | fld hf _ ih => exact .fld (hf.keeps k) ih
noncomputable def weigh : List Piece → List PySem.Str → Nat
  | [], _ => 0
  | (lit, none) :: ps, ts => lit.length + weigh ps ts
  | (lit, some _) :: ps, t :: ts => lit.length + t.length + weigh ps ts
  | (lit, some _) :: _, [] => lit.length

section
variable {prog : Program} {w : World} {A : Around} {E : Value → Shared → Prop} {a : Array Value} {n0 : Nat}
theorem loop_of {f : Nat → Writer × Numbering × List Nat → Sem (ForInStep (Writer × Numbering × List Nat))} (hg : A.guards = some []) (hu : A.units + 100 < cLine)
    (hend : ∀ (x : Nat) (w' : Writer) (num : Numbering) (s : Shared) (Q : ForInStep (Writer × Numbering × List Nat) → Shared → Prop), Q (.done (w', num, [])) s → wpAny (model prog w) A (f x (w', num, [])) Q E s)
    (hlit : ∀ (x : Nat) (w' : Writer) (num : Numbering) (c : Nat) (r lit rest : List Nat) (s : Shared) (Q : ForInStep (Writer × Numbering × List Nat) → Shared → Prop), tooLong w'.total = false → nextMarkup (c :: r) = .ok (lit, none, rest) → (lit.length == n0) = false →
      (∀ o, KPc.Obj o ⟨lit.toArray⟩ → Q (.yield (w'.add ⟨lit.toArray⟩ o, num, rest)) s) → wpAny (model prog w) A (f x (w', num, c :: r)) Q E s)
    (hfld : ∀ (x : Nat) (w' : Writer) (num : Numbering) (i c : Nat) (r lit rest : List Nat) (fl : Field) (v : Value) (t : PySem.Str) (s : Shared) (Q : ForInStep (Writer × Numbering × List Nat) → Shared → Prop), tooLong w'.total = false → nextMarkup (c :: r) = .ok (lit, some fl, rest) → (lit.length == n0) = false →
      fl.name = [] → fl.spec = [] → fl.nested = false → ((num = .unset ∧ i = 0) ∨ num = .auto i) → a[i]? = some v → Fld prog w s.heap fl.conversion v t →
      (∀ o o2 h' tk, (∀ b o, s.heap.get? b = some o → h'.get? b = some o) → KPc.Obj o ⟨lit.toArray⟩ → KPc.Obj o2 t → Q (.yield ((w'.add ⟨lit.toArray⟩ o).add t o2, .auto (i + 1), rest)) { s with heap := h', toks := tk }) → wpAny (model prog w) A (f x (w', num, c :: r)) Q E s) :
    ∀ (l : List Nat) (ps : List Piece) (vs : List Value) (ts : List PySem.Str) (r : List Nat) (w' : Writer) (num : Numbering) (i : Nat) (T : PySem.Str) (N : Nat) (s : Shared) (Q : Writer × Numbering × List Nat → Shared → Prop),
      parse n0 l.length r = some ps → KPc.Good w' T N → ((num = .unset ∧ i = 0) ∨ num = .auto i) → a.toList.drop i = vs → Flds prog w s.heap ps vs ts → N + weigh ps ts ≤ 16777216 →
      (∀ w'' num' r' h' tk, (∀ b o, s.heap.get? b = some o → h'.get? b = some o) → KPc.Good w'' (glue T ps ts) (N + weigh ps ts) → Q (w'', num', r') { s with heap := h', toks := tk }) →
      wpAny (model prog w) A (forIn l (w', num, r) f) Q E s := by
  intro l
  induction l with
  | nil =>
    intro ps vs ts r w' num i T N s Q hp hG hn hv hF hN h
    cases r with
    | cons _ _ => simp [parse] at hp
    | nil =>
      simp only [parse, Option.some.injEq] at hp
      subst hp
      exact wpAny_pure (h w' num [] s.heap s.toks (fun _ _ e => e) (by simpa [glue, weigh] using hG))
  | cons x l ih =>
    intro ps vs ts r w' num i T N s Q hp hG hn hv hF hN h
    refine KPc.turn ?_
    cases r with
    | nil =>
      simp only [parse, Option.some.injEq] at hp
      subst hp
      refine hend x w' num s _ ?_
      exact h w' num [] s.heap s.toks (fun _ _ e => e) (by simpa [glue, weigh] using hG)
    | cons c r =>
      have hshort : tooLong w'.total = false := by
        have := KPc.short_good hG (by omega)
        simpa using this
      simp only [List.length_cons, parse] at hp
      split at hp
      · rename_i lit rest hm
        split at hp
        · cases hp
        rename_i hn0
        rw [Bool.not_eq_true] at hn0
        obtain ⟨ps', hps, rfl⟩ := Option.map_eq_some_iff.mp hp
        cases hF with
        | lit hF =>
          refine hlit x w' num c r lit rest s _ hshort hm hn0 (fun o ho => ?_)
          have hG' := KPc.good_add hG ho
          have el : (PySem.Str.mk lit.toArray).length = lit.length := by simp [PySem.Str.length]
          refine ih ps' vs ts rest _ num i (T ++ ⟨lit.toArray⟩) (N + lit.length) s Q hps (by rw [← el]; exact hG') hn hv hF (by simp only [weigh] at hN; omega) ?_
          intro w'' num' r' h' tk k g
          refine h w'' num' r' h' tk k ?_
          simp only [glue, weigh]
          rw [← Nat.add_assoc]; exact g
      · rename_i lit fl rest hm
        split at hp
        · cases hp
        rename_i hn0
        rw [Bool.not_eq_true] at hn0
        split at hp
        · rename_i hc
          simp only [Bool.and_eq_true, List.isEmpty_iff, Bool.not_eq_true'] at hc
          obtain ⟨⟨hc1, hc2⟩, hc3⟩ := hc
          obtain ⟨ps', hps, rfl⟩ := Option.map_eq_some_iff.mp hp
          cases hF with
          | fld hf hF =>
            rename_i v vs' t ts'
            have hi : a[i]? = some v := by
              rw [← Array.getElem?_toList]
              have := congrArg (·[0]?) hv
              simpa using this
            have hv' : a.toList.drop (i + 1) = vs' := by
              have := congrArg (List.drop 1) hv
              simpa [List.drop_drop] using this
            refine hfld x w' num i c r lit rest fl v t s _ hshort hm hn0 hc1 hc2 hc3 hn hi hf (fun o o2 h1 tk1 k1 ho ho2 => ?_)
            have hG' := KPc.good_add (KPc.good_add hG ho) ho2
            have el : (PySem.Str.mk lit.toArray).length = lit.length := by simp [PySem.Str.length]
            refine ih ps' vs' ts' rest _ (.auto (i + 1)) (i + 1) ((T ++ ⟨lit.toArray⟩) ++ t) (N + lit.length + t.length) { s with heap := h1, toks := tk1 } Q hps (by rw [← el]; exact hG') (.inr rfl) hv' (hF.keeps k1) (by simp only [weigh] at hN; omega) ?_
            intro w'' num' r' h' tk k g
            refine h w'' num' r' h' tk (fun b o e => k b o (k1 b o e)) ?_
            simp only [glue, weigh]
            have : N + (lit.length + t.length + weigh ps' ts') = N + lit.length + t.length + weigh ps' ts' := by omega
            rw [this]; exact g
        · cases hp
      · cases hp

theorem build_run {s : Shared} {fmt : List Nat} {self : Option Value} {byName : PySem.Str → Sem Value} {ps : List Piece} {ts : List PySem.Str} {Q : Writer × Numbering → Shared → Prop} (hg : A.guards = some []) (hu : A.units + 100 < cLine)
    (hp : parse fmt.length fmt.length fmt = some ps) (hF : Flds prog w s.heap ps a.toList ts) (hN : weigh ps ts ≤ 16777216)
    (h : ∀ w'' num' h' tk, (∀ b o, s.heap.get? b = some o → h'.get? b = some o) → KPc.Good w'' (glue PySem.Str.empty ps ts) (weigh ps ts) → Q (w'', num') { s with heap := h', toks := tk }) :
    wpAny (model prog w) A (buildString "str.format" (some a) byName 2 fmt self .unset) Q E s := by
  unfold buildString
  refine wpAny_bind ?_
  rw [KPc.range_list]
  refine loop_of (a := a) (n0 := fmt.length) hg hu ?_ ?_ ?_ _ ps a.toList ts fmt {} .unset 0 PySem.Str.empty 0 s _ (by rw [List.length_range']; exact hp) KPc.good0 (.inl ⟨rfl, rfl⟩) (by simp) hF (by omega) ?_
  · intro x w' num s Q hQ
    exact wpAny_ite (KPc.ite_yes rfl (wpAny_pure hQ))
  · intro x w' num c r lit rest s Q hs hm hn0 hQ
    dsimp only
    rw [hs, hm]
    dsimp only
    rw [hn0]
    exact wpAny_ite (KPc.ite_no (by simp) (wpAny_ite (KPc.ite_no (by simp) (wpAny_pure (hQ _ (KPc.obj_none (by simp)))))))
  · intro x w' num i c r lit rest fl v t s Q hs hm hn0 hc1 hc2 hc3 hnum hi hf hQ
    dsimp only
    rw [hs, hm]
    dsimp only
    rw [hn0, hc1, hc2, hc3]
    refine wpAny_ite (KPc.ite_no (by simp) (wpAny_ite (KPc.ite_no (by simp) ?_)))
    refine wpAny_bind (KFm.field_auto hnum hi ?_)
    refine wpAny_bind (wpAny_holding ?_)
    refine wpAny_mono (hf A E s (fun v s' => ∃ h' u tk, (∀ b o, s.heap.get? b = some o → h'.get? b = some o) ∧ v = .str t u ∧ s' = { s with heap := h', toks := tk }) hg hu (fun _ _ e => e) (fun h' u tk k => ⟨h', u, tk, k, rfl, rfl⟩)) (fun obj s1 z => ?_) (fun _ _ e => e)
    refine wpAny_ite (KPc.ite_no (by simp) ?_)
    refine wpAny_bind (wpAny_pure ?_)
    refine wpAny_bind (wpAny_holding ?_)
    refine wpAny_mono z (fun res s2 z2 => ?_) (fun _ _ e => e)
    obtain ⟨h', u, tk, k, rfl, rfl⟩ := z2
    refine wpAny_bind (wpAny_of_eq (a := some t) rfl ?_)
    dsimp only
    refine wpAny_pure (hQ _ _ h' tk k (KPc.obj_none (by simp)) ?_)
    by_cases hr : rest.isEmpty = true
    · rw [if_pos hr]; exact KPc.obj_some rfl
    · rw [if_neg hr]; exact KPc.obj_none rfl
  · intro w'' num' r' h' tk k g
    refine wpAny_pure (h w'' num' h' tk k ?_)
    simpa using g

theorem format_run {s : Shared} {fmt : PySem.Str} {t0 : Tok} {vs : List Value} {ps : List Piece} {ts : List PySem.Str} {T : PySem.Str} {Q : Value → Shared → Prop} (hg : A.guards = some []) (hu : A.units + 110 < cLine)
    (args : argsOk "str.format" ⟨.str fmt t0 :: vs, []⟩) (hp : parse fmt.cps.toList.length fmt.cps.toList.length fmt.cps.toList = some ps) (hF : Flds prog w s.heap ps vs ts) (hN : weigh ps ts ≤ 16777216) (hT : glue PySem.Str.empty ps ts = T)
    (h : ∀ h' u tk, (∀ b o, s.heap.get? b = some o → h'.get? b = some o) → Q (.str T u) { s with heap := h', toks := tk }) :
    wpAny (model prog w) A (call (.builtin "str.format") (.str fmt t0 :: vs)) Q E s := by
  have hsl := PySem.F.slot_str_format_m
  refine wpAny_call (codeAny_call_builtin hsl.plain PySem.F.entry_str_format_m (hsl.check _ _ _ _ _ _ _ _ (typeIs_str _ _ _) args ?_))
  unfold Builtin.«str.format»
  refine wpAny_bind (wpAny_of_eq (a := (_, _, _)) rfl ?_)
  refine wpAny_bind ?_
  refine build_run (a := vs.toArray) hg (by show A.units + 1 + 100 < cLine; omega) hp (by simpa using hF) hN ?_
  intro w'' num' h' tk k g
  refine KPc.finish_ok g hN hT ?_
  intro t k2
  exact h h' t k2 k
end
end Mine
end
section

open PySem PySem.W PyProof.Rows PySem.Calls PySem.Spec
set_option maxRecDepth 100000
set_option maxHeartbeats 400000
namespace Mine
theorem allBelow {news : List (Addr × Obj)} {d x : Nat} (h : ∀ p ∈ news, p.1 < d) (hx : d ≤ x) : ∀ p ∈ news, p.1 ≠ x := fun p hp => Nat.ne_of_lt (Nat.lt_of_lt_of_le (h p hp) hx)
/-- the heap bears the ledger -/
noncomputable def Bears (h : Heap) (news : List (Addr × Obj)) : Prop := ∀ p ∈ news, h.get? p.1 = some p.2
theorem Bears.of {h₀ h : Heap} {L : Addr} {l news : List (Addr × Obj)} (N : News h₀ L h l) (hs : ∀ p ∈ news, p ∈ l) : Bears h news := fun p hp => (N p (hs p hp)).1
/-- repr of v is t wherever the ledger stands -/
noncomputable def ShowsN (prog : Program) (w : World) (news : List (Addr × Obj)) (v : Value) (t : PySem.Str) : Prop := t.length ≤ 100000 ∧ ∀ h, Bears h news → Shows prog w h v t
section
variable {prog : Program} {w : World} {A : Around} {E : Value → Shared → Prop} {s : Shared} {K : Frag} {x C : Addr} {h₀ : Heap} {L : Addr} {m : Str → Option Value} {name : Str} {v : Value} {news pre post : List (Addr × Obj)}
inductive AtL (x : Addr) (o : Obj) : List (Addr × Obj) → List (Addr × Obj) → List (Addr × Obj) → Prop
  | head {r} : (∀ p ∈ r, p.1 ≠ x) → AtL x o ((x, o) :: r) [] r
  | tail {p r pre post} : p.1 ≠ x → AtL x o r pre post → AtL x o (p :: r) (p :: pre) post
theorem AtL.split {x : Addr} {o : Obj} : ∀ {l pre post : List (Addr × Obj)}, AtL x o l pre post → l = pre ++ (x, o) :: post ∧ (∀ p ∈ pre, p.1 ≠ x) ∧ ∀ p ∈ post, p.1 ≠ x
  | _, _, _, .head h => ⟨rfl, (fun _ h => (nomatch h)), h⟩
  | _, _, _, .tail (p := p) h r =>
    let ⟨a, c, e⟩ := r.split
    ⟨by rw [a]; rfl, (fun q hq => by rcases List.mem_cons.mp hq with rfl | hq; exact h; exact c q hq), e⟩
theorem instE {h₀ h : Heap} {L x C t dx : Addr} {od : Obj} {news : List (Addr × Obj)} (N : News h₀ L h news) (h1 : (x, excObj C t (some dx)) ∈ news) (h2 : (dx, od) ∈ news) : InstAt h x (excObj C t (some dx)) C (some od) :=
  ⟨(N _ h1).1, rfl, rfl, (N _ h2).1⟩
/-- the first store into an own exception -/
theorem setE_first {t0 : Addr} {Q : Unit → Shared → Prop}
    (F : Fr h₀ L s.heap m) (X₀ : K.In h₀) (N : News h₀ L s.heap news) (hA : AtL x (excObj C t0 none) news pre post)
    (hs : findIn K (.ref C) "__setattr__" = some (some (.builtin "object.__setattr__"))) (hp : excOver K C = true) (ht : takerIn K C name = some none) (hh : (clsIn K C).any (·.hasDict) = true)
    (h : ∀ dx h', Fr h₀ L h' m → News h₀ L h' ((dx, dictOf [⟨PyData.keyHash w.params name, .str name (s.toks + 1), v⟩] 1) :: (pre ++ (x, excObj C t0 (some dx)) :: post)) → (∀ p ∈ news, p.1 < dx) → Q () { s with heap := h', toks := s.toks + 2 }) :
    wpAny (model prog w) A (setAttr (.ref x) name v) Q E s := by
  obtain ⟨rfl, h1, h2⟩ := hA.split
  have X := X₀.keeps F.keep
  have hx := (N (x, excObj C t0 none) (by simp)).1
  have I : InstAt s.heap x (excObj C t0 none) C none := ⟨hx, rfl, rfl, trivial⟩
  refine setX_plain X I hs ?_
  exact osaX_first (s := { s with toks := s.toks + 1 }) F N X hp ht hh h1 h2 fun dx h' F' N' l => h dx h' F' N' l

theorem setE_dict {Q : Unit → Shared → Prop} {ox : Obj} {dx : Addr} {es es' : List DictEntry} {n n' : Nat} {news' : List (Addr × Obj)} (F : Fr h₀ L s.heap m) (X₀ : K.In h₀) (N : News h₀ L s.heap news) (I : InstAt s.heap x ox C (some (dictOf es n))) (hd : ox.dict = some dx)
    (hs : findIn K (.ref C) "__setattr__" = some (some (.builtin "object.__setattr__"))) (hp : excOver K C = true) (ht : takerIn K C name = some none) (hh : (clsIn K C).any (·.hasDict) = true) (hl : (getL name es).isSome = true)
    (e : (putL name (PyData.keyHash w.params name) (.str name (s.toks + 1)) v es, putN name es n) = (es', n')) (U : Upd dx (dictOf es n) (dictOf es' n') news news') (hz : es'.length ≤ 1000)
    (h : ∀ h', Fr h₀ L h' m → News h₀ L h' news' → Q () { s with heap := h', toks := s.toks + 2 }) :
    wpAny (model prog w) A (setAttr (.ref x) name v) Q E s := by
  obtain ⟨pre, post, rfl, rfl, a, b⟩ := U.split
  obtain ⟨e1, e2⟩ := Prod.mk.inj e
  exact setX_plain (X₀.keeps F.keep) I hs (osaX_dict (s := { s with toks := s.toks + 1 }) F N (X₀.keeps F.keep) I hd hp ht hh hl a b (by rw [putName_dict, e1, e2]) rfl hz fun h' F' N' => h h' F' N')

theorem setE_args {t0 t1 : Addr} {d : Option Addr} {od : Option Obj} {vs : List Value} {k : Nat} {Q : Unit → Shared → Prop} {news' : List (Addr × Obj)} (F : Fr h₀ L s.heap m) (X₀ : K.In h₀) (N : News h₀ L s.heap news)
    (I : InstAt s.heap x (excObj C t0 d) C od) (hsub : subIn K (.ref C) (.type "BaseException") = some true)
    (hs : findIn K (.ref C) "__setattr__" = some (some (.builtin "object.__setattr__"))) (hp : excOver K C = true) (ht : takerIn K C "args" = some (some (.builtin "BaseException.args")))
    (U : Upd x (excObj C t0 d) (excObj C t1 d) news news') (hv : (t1, ({ cls := .type "tuple", data := .seq vs.toArray k } : Obj)) ∈ news)
    (h : ∀ h', Fr h₀ L h' m → News h₀ L h' news' → Q () { s with heap := h', toks := s.toks + 1 }) :
    wpAny (model prog w) A (setAttr (.ref x) "args" (.ref t1)) Q E s := by
  have ht1 := (N _ hv).1
  obtain ⟨pre, post, rfl, rfl, a, b⟩ := U.split
  exact setX_plain (X₀.keeps F.keep) I hs (osaX_args (s := { s with toks := s.toks + 1 }) F N (X₀.keeps F.keep) I hsub hp ht a b ht1 fun h' F' N' => h h' F' N')

theorem exInit_N {t0 : Addr} {d : Option Addr} {od : Option Obj} {Q : Value → Shared → Prop} (F : Fr h₀ L s.heap m) (X₀ : K.In h₀) (N : News h₀ L s.heap news) (I : InstAt s.heap x (excObj C t0 d) C od) (hsub : subIn K (.ref C) (.type "Exception") = some true) (hov : excOver K C = true)
    (hA : AtL x (excObj C t0 d) news pre post)
    (h : ∀ t1 h', Fr h₀ L h' m → News h₀ L h' ((t1, tupObj [v]) :: (pre ++ (x, excObj C t1 d) :: post)) → (∀ p ∈ news, p.1 < t1) → Q .none { s with heap := h' }) :
    wpAny (model prog w) A (call (.builtin "Exception.__init__") [.ref x, v]) Q E s := by
  obtain ⟨rfl, h1, h2⟩ := hA.split
  exact exInit_K F N (X₀.keeps F.keep) I hsub hov h1 h2 h

theorem getE_own {ox : Obj} {es : List DictEntry} {n : Nat} {expr : Bool} {Q : Value → Shared → Prop} {attr : Option Value} (F : Fr h₀ L s.heap m) (X₀ : K.In h₀) (I : InstAt s.heap x ox C (some (dictOf es n))) (hg : excGet K C = true) (hh : (clsIn K C).any (·.hasDict) = true)
    (ha : findIn K (.ref C) name = some attr) (hn : noGet K attr = true) (hl : getL name es = some (some v)) (hv : handedIn v = true) (h : Q v { s with toks := s.toks + 1 }) :
    wpAny (model prog w) A (getAttr (.ref x) name expr) Q E s :=
  getX_value (X₀.keeps F.keep) I hg (findObj_own hh ha hn hl) hv h

theorem getE_args {t0 : Addr} {d : Option Addr} {od : Option Obj} {expr : Bool} {Q : Value → Shared → Prop} (F : Fr h₀ L s.heap m) (X₀ : K.In h₀) (I : InstAt s.heap x (excObj C t0 d) C od) (hg : excGet K C = true)
    (hf : findObj K C od "args" = some (.bind (.builtin "getset_descriptor.__get__") (.builtin "BaseException.args")))
    (h : Q (.ref t0) { s with toks := s.toks + 1 }) : wpAny (model prog w) A (getAttr (.ref x) "args" expr) Q E s :=
  getX_args (X₀.keeps F.keep) I hg hf rfl rfl h

theorem hasattrE {ox : Obj} {od : Option Obj} {tk : Tok} {Q : Value → Shared → Prop} (F : Fr h₀ L s.heap m) (X₀ : K.In h₀) (N : News h₀ L s.heap news) (hA : A.handled = none) (I : InstAt s.heap x ox C od) (hg : excGet K C = true) (hmod : subIn K (.ref C) (.type "module") = some false)
    (hf : findObj K C od name = some .missing) (hnm : nameOk K C = true) (hn : name.length ≤ 100)
    (h : ∀ h' tk', Fr h₀ L h' m → News h₀ L h' news → Q (.bool false) { s with heap := h', toks := tk' }) : wpAny (model prog w) A (call (.builtin "hasattr") [.ref x, .str name tk]) Q E s :=
  hasattr_miss F N hA (X₀.keeps F.keep) I hg hmod hf hnm hn h

noncomputable abbrev fmt1 : PySem.Str := PySem.Str.ofString "Bad value substitution: option {!r} in section {!r} contains an interpolation key {!r} which is not a valid option name. Raw value: {!r}"
noncomputable abbrev told1 (t1 t2 t3 t4 : PySem.Str) : PySem.Str := PySem.Str.ofString "Bad value substitution: option " ++ t1 ++ PySem.Str.ofString " in section " ++ t2 ++ (PySem.Str.ofString " contains an interpolation key " ++ t3) ++ (PySem.Str.ofString " which is not a valid option name. Raw value: " ++ t4)
noncomputable def pieces1 : List Piece := [((PySem.Str.ofString "Bad value substitution: option ").cps.toList, some (some 114)), ((PySem.Str.ofString " in section ").cps.toList, some (some 114)), ((PySem.Str.ofString " contains an interpolation key ").cps.toList, some (some 114)), ((PySem.Str.ofString " which is not a valid option name. Raw value: ").cps.toList, some (some 114))]
theorem mk_toList (x : PySem.Str) : (PySem.Str.mk x.cps.toList.toArray) = x := by simp
theorem args_5 (a b c d e : Value) : argsOk "str.format" ⟨[a, b, c, d, e], []⟩ := by
  unfold argsOk; rw [signature?_of (id := "str.format") (n := ['t', 'a', 'm', 'r', 'o', 'f']) (o := ['r', 't', 's']) (by kernel_rfl) PySem.F.owner_str]; kernel_rfl
end
end Mine
end
section

open PySem PySem.W PyProof.Rows PySem.Calls PySem.Spec
set_option maxRecDepth 100000
set_option maxHeartbeats 400000
namespace Mine
/-- what a turn's end owes: the iterator's own entries kept, and the word for the next turn -/
noncomputable def TurnNext (h₀ : Heap) (L : Addr) (I : Addr) (own : List (Addr × Obj)) (Jn : (PySem.Str → Option Value) → List (Addr × Obj) → Prop) (s s₂ : Shared) : Prop :=
  ∃ h' tk m' nx, s₂ = { s with heap := h', toks := tk } ∧ Fr h₀ L h' m' ∧ News h₀ L h' (own ++ nx) ∧ (∀ p ∈ nx, p.1 ≠ I) ∧ Jn m' nx
noncomputable def TurnQ (h₀ : Heap) (L : Addr) (I : Addr) (own : List (Addr × Obj)) (Jn : (PySem.Str → Option Value) → List (Addr × Obj) → Prop) (s : Shared) (Q : Flow → Shared → Prop) (f : Flow) (s₂ : Shared) : Prop :=
  match f with
  | .ret v => Q (.ret v) s₂
  | .brk => Q .next s₂
  | _ => TurnNext h₀ L I own Jn s s₂
section
variable {prog : Program} {w : World} {A : Around} {E : Value → Shared → Prop} {s : Shared} {env : Env} {h₀ : Heap} {L : Addr} {Q : Flow → Shared → Prop} {target : Expr} {body : List Stmt} {m : PySem.Str → Option Value} {news : List (Addr × Obj)}
end
end Mine
end
section

open PySem PySem.W PyProof.Rows PySem.Calls PySem.Spec Builtin Builtin.Str
set_option maxRecDepth 100000
set_option maxHeartbeats 400000
namespace Mine
/-- the signs that a text of ours may have: a line end, or printable ASCII -/
noncomputable def okSign (c : Nat) : Prop := c = 10 ∨ (32 ≤ c ∧ c < 127)
noncomputable def okText (x : PySem.Str) : Prop := ∀ c ∈ x.cps.toList, okSign c
theorem printable_tab : ∀ c : Fin 127, 32 ≤ c.val → Unicode.isPrintable c.val = true := by decide +kernel
theorem reprChar_esc {q c : Nat} (h : c = q ∨ c = 92) : reprChar q c = [92, c] := by
  unfold reprChar; rw [if_pos (by rcases h with h | h <;> simp [h])]
theorem reprChar_nl {q : Nat} (h : q ≠ 10) : reprChar q 10 = [92, 110] := by
  unfold reprChar; rw [if_neg (by simp; exact fun e => h e.symm), if_pos (by rfl)]
theorem reprChar_plain {q c : Nat} (h : okSign c) (h1 : c ≠ q) (h2 : c ≠ 92) (h3 : c ≠ 10) : reprChar q c = [c] := by
  have hp : Unicode.isPrintable c = true := by
    rcases h with h | h
    · exact absurd h h3
    · exact printable_tab ⟨c, h.2⟩ h.1
  unfold reprChar
  rw [if_neg (by simp [h1, h2]), if_neg (by simp [h3]), if_neg (by simp; rcases h with h | h <;> omega), if_neg (by simp; rcases h with h | h <;> omega), if_pos hp]
/-- what is written so far: the mark, and the signs -/
noncomputable def wr (q : Nat) (l : List Nat) : PySem.Str := ⟨l.foldl (fun out c => out ++ (reprChar q c).toArray) #[q]⟩
theorem wr_end (x : PySem.Str) : wr (reprQuote x) x.cps.toList ++ ⟨#[reprQuote x]⟩ = reprText x := by
  unfold wr reprText
  rw [Array.foldl_toList]
  refine PySem.Str.ext' ?_
  rw [PySem.Str.cps_append]
  exact Array.push_eq_append.symm
theorem reprChar_le {q c : Nat} (h : okSign c) (hq : q ≠ 10) : (reprChar q c).length ≤ 2 := by
  by_cases h1 : c = q ∨ c = 92
  · rw [reprChar_esc h1]; simp
  · by_cases h3 : c = 10
    · subst h3; rw [reprChar_nl hq]; simp
    · rw [reprChar_plain h (fun e => h1 (.inl e)) (fun e => h1 (.inr e)) h3]; simp
theorem wr_size {q : Nat} (hq : q ≠ 10) : ∀ (l : List Nat) (acc : Array Nat), (∀ c ∈ l, okSign c) → (l.foldl (fun out c => out ++ (reprChar q c).toArray) acc).size ≤ acc.size + 2 * l.length
  | [], acc, _ => by simp
  | c :: l, acc, h => by
    have ih := wr_size hq l (acc ++ (reprChar q c).toArray) fun d hd => h d (by simp [hd])
    have h2 := reprChar_le (h c (by simp)) hq
    simp only [List.foldl_cons, Array.size_append, List.size_toArray, List.length_cons] at *
    omega
theorem wr_length {q : Nat} (hq : q ≠ 10) (l : List Nat) (h : ∀ c ∈ l, okSign c) : (wr q l).length ≤ 2 * l.length + 1 := by
  have := wr_size hq l #[q] h
  simp only [wr, PySem.Str.length]
  have e : (#[q] : Array Nat).size = 1 := rfl
  omega
theorem quote_ne (x : PySem.Str) : reprQuote x ≠ 10 := by unfold reprQuote; split <;> decide
theorem reprText_length {x : PySem.Str} (h : okText x) : (reprText x).length ≤ 2 * x.length + 2 := by
  rw [← wr_end, PySem.Str.length_append]
  have := wr_length (quote_ne x) x.cps.toList h
  simp only [PySem.Str.length, Array.length_toList] at *
  have : (#[reprQuote x] : Array Nat).size = 1 := rfl
  omega
section
variable {prog : Program} {w : World} {A : Around} {E : Value → Shared → Prop} {s : Shared} {env : Env} {h₀ : Heap} {L : Addr} {Q : Flow → Shared → Prop} {target : Expr} {body : List Stmt} {m : PySem.Str → Option Value} {news : List (Addr × Obj)}
end
end Mine
end
section

open PySem PySem.W PyProof.Rows PySem.Calls PySem.Spec
namespace Mine
/-- a contract of a def of the text's: called with these, it gives back what «out» says; what it makes lies ahead of the ledger -/
noncomputable def Callee (prog : Program) (K : Params → Frag) (p : Program) (w : World) (f : Addr) (D U : Nat) (args : List Value) (kw : List (PySem.Str × Value)) (rel : List (Addr × Obj) → Prop) (out : List (Addr × Obj) → Value → Prop) : Prop :=
   ∀ (loose : List PySem.Str) (mean : ExcName → Option Value) (mg mb : PySem.Str → Option Value) (dp un : Nat) (cn : PySem.Str) (cs : Scope) (a : Addr) (ccd : Value) (cl : List (PySem.Str × Addr)) (outer : List Env) (A₀ : Around) (base h₀ : Heap) (L : Addr) (m : PySem.Str → Option Value) (news : List (Addr × Obj)) (s : Shared) 
    (Q E : Value → Shared → Prop),
    Below A₀ base outer h₀ → Fr h₀ L s.heap m → (K w.params).In h₀ → News h₀ L s.heap news → Top p loose mean mg mb h₀ → cs.kind = .function → rel news → dp + D < recursionLimit → un + U < cLine →
    (∀ r tl h' tk', Fr h₀ L h' m → News h₀ L h' (tl ++ news) → (∀ p ∈ tl, ∀ q ∈ news, q.1 < p.1) → out tl r → Q r { s with heap := h', toks := tk' }) →
    wpAny (model prog w) (ktrTop dp un (some []) cn cs L a ccd cl outer) (call (.ref f) args kw) Q E s
theorem callee_use {prog : Program} {K : Params → Frag} {p : Program} {w : World} {f : Addr} {D U : Nat} {args : List Value} {kw : List (PySem.Str × Value)} {rel : List (Addr × Obj) → Prop} {out : List (Addr × Obj) → Value → Prop}
    (C : Callee prog K p w f D U args kw rel out)
    {loose : List PySem.Str} {mean : ExcName → Option Value} {mg mb : PySem.Str → Option Value} {dp un : Nat} {cn : PySem.Str} {cs : Scope} {a : Addr} {ccd : Value} {cl : List (PySem.Str × Addr)} {outer : List Env} {A₀ : Around} {base h₀ : Heap} {L : Addr} {m : PySem.Str → Option Value} {news : List (Addr × Obj)} {s : Shared}
    {Q E : Value → Shared → Prop}
    (B : Below A₀ base outer h₀) (F : Fr h₀ L s.heap m) (X : (K w.params).In h₀) (N : News h₀ L s.heap news) (T : Top p loose mean mg mb h₀) (hk : cs.kind = .function) (hr : rel news) (hd : dp + D < recursionLimit) (hu : un + U < cLine)
    (ret : ∀ r tl h' tk', Fr h₀ L h' m → News h₀ L h' (tl ++ news) → (∀ p ∈ tl, ∀ q ∈ news, q.1 < p.1) → out tl r → Q r { s with heap := h', toks := tk' }) :
    wpAny (model prog w) (ktrTop dp un (some []) cn cs L a ccd cl outer) (call (.ref f) args kw) Q E s := C _ _ _ _ _ _ _ _ _ _ _ _ _ _ _ _ _ _ _ _ _ B F X N T hk hr hd hu ret
theorem callee_val {prog : Program} {K : Params → Frag} {p : Program} {w : World} {f : Addr} {D U : Nat} {args : List Value} {kw : List (PySem.Str × Value)} {rel : List (Addr × Obj) → Prop} {r0 : Value}
    (C : Callee prog K p w f D U args kw rel (fun tl r => tl = [] ∧ r = r0))
    {loose : List PySem.Str} {mean : ExcName → Option Value} {mg mb : PySem.Str → Option Value} {dp un : Nat} {cn : PySem.Str} {cs : Scope} {a : Addr} {ccd : Value} {cl : List (PySem.Str × Addr)} {outer : List Env} {A₀ : Around} {base h₀ : Heap} {L : Addr} {m : PySem.Str → Option Value} {news : List (Addr × Obj)} {s : Shared}
    {Q E : Value → Shared → Prop}
    (B : Below A₀ base outer h₀) (F : Fr h₀ L s.heap m) (X : (K w.params).In h₀) (N : News h₀ L s.heap news) (T : Top p loose mean mg mb h₀) (hk : cs.kind = .function) (hr : rel news) (hd : dp + D < recursionLimit) (hu : un + U < cLine)
    (ret : ∀ h' tk', Fr h₀ L h' m → News h₀ L h' news → Q r0 { s with heap := h', toks := tk' }) :
    wpAny (model prog w) (ktrTop dp un (some []) cn cs L a ccd cl outer) (call (.ref f) args kw) Q E s :=
  callee_use C B F X N T hk hr hd hu (fun r tl h' tk' F' N' up o => by obtain ⟨rfl, rfl⟩ := o; exact ret h' tk' F' N')
end Mine
end
section

open PySem PySem.W PyProof.Rows PySem.Calls PySem.Spec Builtin Builtin.Str
set_option maxRecDepth 100000
set_option maxHeartbeats 400000
namespace Mine
noncomputable def TextEnd (h₀ : Heap) (L : Addr) (I : Addr) (oI : Obj) (news : List (Addr × Obj)) (m₀ : PySem.Str → Option Value) (x y : PySem.Str) (T : PySem.Str) (s s₂ : Shared) : Prop :=
  ∃ h' tk m' k, s₂ = { s with heap := h', toks := tk } ∧ Fr h₀ L h' m' ∧ News h₀ L h' ((I, oI) :: news) ∧ m' y = some (.str T k) ∧ ∀ z, z ≠ x → z ≠ y → m' z = m₀ z
noncomputable def TextQ (h₀ : Heap) (L : Addr) (I : Addr) (oI : Obj) (news : List (Addr × Obj)) (m₀ : PySem.Str → Option Value) (x y : PySem.Str) (T : PySem.Str) (s : Shared) (Q : Flow → Shared → Prop) (f : Flow) (s₂ : Shared) : Prop :=
  match f with
  | .ret v => Q (.ret v) s₂
  | .brk => Q .next s₂
  | _ => TextEnd h₀ L I oI news m₀ x y T s s₂
theorem TextEnd.intro {h₀ : Heap} {L : Addr} {I : Addr} {oI : Obj} {news : List (Addr × Obj)} {m₀ m' : PySem.Str → Option Value} {x y T T' : PySem.Str} {s : Shared} {h' : Heap} {tk k : Nat}
    (F : Fr h₀ L h' m') (N : News h₀ L h' ((I, oI) :: news)) (e : m' y = some (.str T' k)) (hT : T' = T) (hm : ∀ z, z ≠ x → z ≠ y → m' z = m₀ z) : TextEnd h₀ L I oI news m₀ x y T s { s with heap := h', toks := tk } :=
  ⟨h', tk, m', k, rfl, F, N, hT ▸ e, hm⟩
section
variable {prog : Program} {w : World} {A : Around} {E : Value → Shared → Prop} {s : Shared} {env : Env} {h₀ : Heap} {Q : Flow → Shared → Prop} {body : List Stmt} {m₀ : PySem.Str → Option Value} {news : List (Addr × Obj)}
end
theorem occ_one (x : PySem.Str) (c : Nat) : (occurrences x ⟨#[c]⟩ 0 x.length 1).isEmpty = !x.cps.contains c := by
  have := StrLaws.found_one x c
  have e : x.cps.contains c = decide (c ∈ x.cps.toList) := by
    rw [← Array.contains_toList]
    simp
  rw [e, ← this, Bool.not_not]
theorem lit_q1 : PySem.Str.ofString "'" = ⟨#[39]⟩ := by decide +kernel
theorem lit_q2 : PySem.Str.ofString "\"" = ⟨#[34]⟩ := by decide +kernel
theorem quote_a {x : PySem.Str} (h : (occurrences x (PySem.Str.ofString "'") 0 x.length 1).isEmpty = true) : reprQuote x = 39 := by
  rw [lit_q1, occ_one] at h
  unfold reprQuote
  simp at h
  simp [h]
theorem quote_b {x : PySem.Str} (h2 : (occurrences x (PySem.Str.ofString "\"") 0 x.length 1).isEmpty = false) : reprQuote x = 39 := by
  rw [lit_q2, occ_one] at h2
  unfold reprQuote
  simp at h2
  simp [h2]
theorem quote_c {x : PySem.Str} (h : (occurrences x (PySem.Str.ofString "'") 0 x.length 1).isEmpty = false) (h2 : (occurrences x (PySem.Str.ofString "\"") 0 x.length 1).isEmpty = true) : reprQuote x = 34 := by
  rw [lit_q1, occ_one] at h
  rw [lit_q2, occ_one] at h2
  unfold reprQuote
  simp at h h2
  simp [h, h2]
end Mine
end
section

open PySem PySem.W PyProof.Rows PySem.Calls PySem.Spec Builtin Builtin.Str
set_option maxRecDepth 100000
set_option maxHeartbeats 400000
namespace Mine
/-- a plain value and its datum, at every heap -/
noncomputable def RdV (v : Value) (d : PyData) : Prop := ∀ h, Reads h v d []
noncomputable def ascii (x : PySem.Str) : Prop := ∀ c ∈ x.cps.toList, c < 128
noncomputable def asciiB (x : PySem.Str) : Bool := x.cps.toList.all fun c => decide (c < 128)
theorem ascii_of {x : PySem.Str} (h : asciiB x = true) : ascii x := fun c hc => of_decide_eq_true (List.all_eq_true.mp h c hc)
theorem ascii_append {a b : PySem.Str} (ha : ascii a) (hb : ascii b) : ascii (a ++ b) := by
  intro c hc
  rw [PySem.Str.cps_append, Array.toList_append] at hc
  exact (List.mem_append.mp hc).elim (ha c) (hb c)
theorem ascii_ok {x : PySem.Str} (h : ascii x) : PyData.strOk x = true := by
  unfold PyData.strOk
  rw [← Array.all_toList, List.all_eq_true]
  intro c hc
  have := h c hc
  simp only [Bool.and_eq_true, Bool.or_eq_true, decide_eq_true_eq]
  omega
theorem okText_ascii {x : PySem.Str} (h : okText x) : ascii x := fun c hc => by
  rcases h c hc with h | h <;> omega
theorem reprChar_ascii {q c : Nat} (hq : q = 34 ∨ q = 39) (h : okSign c) : ∀ d ∈ reprChar q c, d < 128 := by
  intro d hd
  by_cases h1 : c = q ∨ c = 92
  · rw [reprChar_esc h1] at hd
    simp at hd
    omega
  · by_cases h3 : c = 10
    · subst h3; rw [reprChar_nl (by omega)] at hd; simp at hd; omega
    · rw [reprChar_plain h (fun e => h1 (.inl e)) (fun e => h1 (.inr e)) h3] at hd
      simp at hd
      rcases h with h | h <;> omega
theorem quote_is (x : PySem.Str) : reprQuote x = 34 ∨ reprQuote x = 39 := by unfold reprQuote; split <;> simp
noncomputable def flatD : PyData → Prop
  | .none | .bool _ | .int _ => True
  | .str x => ascii x
  | _ => False
theorem flat_canLay {d : PyData} (h : flatD d) : d.canLay0 = true := by
  cases d <;> first | rfl | cases h | (rw [PyData.canLay0]; exact ascii_ok h)
theorem flat_depth {d : PyData} (h : flatD d) : d.depth = 0 := by cases d <;> first | rfl | cases h | simp [PyData.depth]
theorem flats_canLay : ∀ {l : List PyData}, (∀ d ∈ l, flatD d) → PyData.canLayAll0 l = true
  | [], _ => by simp [PyData.canLayAll0]
  | d :: l, h => by simp only [PyData.canLayAll0, flat_canLay (h d (.head _)), flats_canLay fun e he => h e (.tail _ he), Bool.and_self]
theorem flats_depth : ∀ {l : List PyData}, (∀ d ∈ l, flatD d) → PyData.depthAll l = 0
  | [], _ => by simp [PyData.depthAll]
  | d :: l, h => by simp only [PyData.depthAll, flat_depth (h d (.head _)), flats_depth fun e he => h e (.tail _ he)]; rfl
theorem shaped_list {l : List PyData} (h : ∀ d ∈ l, flatD d) : SeqAt.shaped (.list l) = true := by
  simp only [SeqAt.shaped, PyData.canLay0, PyData.depth, flats_canLay h, flats_depth h]; decide
section
variable {prog : Program} {w : World} {A : Around} {E : Value → Shared → Prop} {s : Shared}
theorem ne_same {a b : Value} {d : PyData} {as bs : List Addr} {Q : Value → Shared → Prop} (ra : Reads s.heap a d as) (rb : Reads s.heap b d bs) (hs : SeqAt.shaped d = true) (hu : A.units + 64 < cLine)
    (h : Q (.bool false) s) : wpAny (model prog w) A (compareOp .NotEq a b) Q E s :=
  ne_dataH ra rb hs hs hu (by rw [SeqAt.eqv_refl d (SeqAt.canLay_of_shaped hs)]; exact h)
theorem eq_same {a b : Value} {d : PyData} {as bs : List Addr} {Q : Value → Shared → Prop} (ra : Reads s.heap a d as) (rb : Reads s.heap b d bs) (hs : SeqAt.shaped d = true) (hu : A.units + 64 < cLine)
    (h : Q (.bool true) s) : wpAny (model prog w) A (compareOp .Eq a b) Q E s :=
  eq_dataH ra rb hs hs hu (by rw [SeqAt.eqv_refl d (SeqAt.canLay_of_shaped hs)]; exact h)
theorem rd_list {h₀ h : Heap} {L a : Addr} {vs : Array Value} {n : Nat} {ds : List PyData} {as : List Addr} {news : List (Addr × Obj)} (N : News h₀ L h news) (hm : (a, listOf vs n) ∈ news) (hr : ReadsAll h vs.toList ds as) : Reads h (.ref a) (.list ds) (a :: as) :=
  .list (N _ hm).1 rfl rfl hr
end
/-- the values of law 01, and the datum of each -/
noncomputable def ValOk (v : Value) (d : PyData) : Prop := (v = .none ∧ d = .none) ∨ (∃ n k, v = .int n k ∧ 0 ≤ n ∧ n < 1000 ∧ d = .int n) ∨ (∃ x k, v = .str x k ∧ okText x ∧ x.length ≤ 100 ∧ d = .str x)
end Mine
end
section

open PySem PySem.W PyProof.Rows PySem.Calls PySem.Spec
set_option maxRecDepth 100000
set_option maxHeartbeats 400000
namespace Mine
section
variable {prog : Program} {w : World} {A : Around} {E : Value → Shared → Prop} {s : Shared} {env : Env} {h₀ : Heap} {L : Addr} {Q : Flow → Shared → Prop} {target : Expr} {body : List Stmt} {m : PySem.Str → Option Value} {news : List (Addr × Obj)}
theorem forOwnG {I ax : Addr} {oa : Obj} {n : Nat} {P : Nat → Value → Prop} {St : Nat → Heap → Prop} (W : Walks prog w A I [I, ax] [I] n P St) (hI : h₀.get? I = none) (hL : L ≠ I) (hst : St 0 s.heap) (F : Fr h₀ L s.heap m) (N : News h₀ L s.heap news) (hnw : ∀ p ∈ news, p.1 ≠ I)
    (hgone : ∀ i h, St i h → ∃ o, h.get? I = some o)
    (J : Nat → (PySem.Str → Option Value) → List (Addr × Obj) → Prop) (hJa : ∀ i m nx, J i m nx → (ax, oa) ∈ nx) (h0 : J 0 m news)
    (turn : ∀ i v m₁ nx h tk oI, i < n → P i v → J i m₁ nx → (∀ p ∈ nx, p.1 ≠ I) → Fr h₀ L h m₁ → News h₀ L h ((I, oI) :: nx) →
      wpAny (model prog w) A (assign target env v) (fun _ s₁ => wpAny (model prog w) A (execs body env) (TurnQ h₀ L I [(I, oI)] (J (i + 1)) s Q) E s₁) E { s with heap := h, toks := tk })
    (done : ∀ m₁ nx h tk, J n m₁ nx → Fr h₀ L h m₁ → News h₀ L h nx → Q .next { s with heap := h, toks := tk })
    (hE : PassesOwn (model prog w) A env E) (hgo : ∀ i v (s : Shared) (Q : Unit → Shared → Prop) (E : Value → Shared → Prop), P i v → St (i + 1) s.heap → Q () s → wpAny (model prog w) A (letOwnedTupleGo target (.ref I) v) Q E s) :
    codeAny (model prog w) A (.forLoop target (.ref I) body [] env) (fun r s' => match r with | .ok f => Q f s' | .error e => cameBackBy (model prog w) A env E e s') s := by
  refine codeAny_forLoop_any
    (fun k s' => ∃ h' tk m' nx i, s' = { s with heap := h', toks := tk } ∧ St i h' ∧ Fr h₀ L h' m' ∧ News h₀ L h' nx ∧ (∀ p ∈ nx, p.1 ≠ I) ∧ J i m' nx ∧ i ≤ n ∧ k = n + 1 - i) ?_ (n + 1)
    ⟨s.heap, s.toks, m, news, 0, rfl, hst, F, N, hnw, h0, Nat.zero_le _, rfl⟩
  rintro k s' ⟨h', tk, m', nx, i, rfl, hst', F', N', hnw', hJ, hi, rfl⟩
  have next : ∀ h₁ : Heap, (∀ b o, b ∉ [I] → h'.get? b = some o → h₁.get? b = some o) → Fr h₀ L h₁ m' ∧ News h₀ L h₁ nx := fun h₁ hk₁ =>
    ⟨⟨F'.ns.at' fun o e => hk₁ _ o (by simpa using hL) e, fun b o e => hk₁ b o (by
      intro hb; rw [List.mem_singleton.mp hb, hI] at e; cases e) (F'.keep b o e), F'.above⟩, fun p hp => ⟨hk₁ _ _ (by simpa using hnw' p hp) (N' p hp).1, (N' p hp).2⟩⟩
  by_cases hlt : i < n
  · refine W.item i _ _ _ hlt hst' fun v h₁ tk₁ hP hst₁ hk₁ => ?_
    obtain ⟨F₁, N₁⟩ := next h₁ hk₁
    obtain ⟨oI, hoI⟩ := hgone _ _ hst₁
    have N₂ : News h₀ L h₁ ((I, oI) :: nx) := fun p hp => by
      rcases List.mem_cons.mp hp with rfl | hp
      · exact ⟨hoI, Ne.symm hL, hI⟩
      · exact N₁ p hp
    dsimp only
    refine hgo i v _ _ _ hP hst₁ ?_
    refine wpAny_passesOwn hE (wpAny_mono (turn i v m' nx h₁ tk₁ oI hlt hP hJ hnw' F₁ N₂) (fun _ s₁ z => wpAny_passesOwn hE (wpAny_mono z (fun f s₂ q => ?_) fun _ _ e => e)) fun _ _ e => e)
    have fin : TurnNext h₀ L I [(I, oI)] (J (i + 1)) s s₂ → ∃ k', k' < n + 1 - i ∧ ∃ h' tk m' nx j, s₂ = { s with heap := h', toks := tk } ∧ St j h' ∧ Fr h₀ L h' m' ∧ News h₀ L h' nx ∧ (∀ p ∈ nx, p.1 ≠ I) ∧ J j m' nx ∧ j ≤ n ∧ k' = n + 1 - j := by
      rintro ⟨h₂, tk₂, m₂, nx₂, rfl, F₂, N₂', ha, hj⟩
      refine ⟨n + 1 - (i + 1), by omega, h₂, tk₂, m₂, nx₂, i + 1, rfl, W.frame _ _ _ hst₁ (fun b hb o e => ?_), F₂, fun p hp => N₂' p (List.mem_append_right _ hp), ha, hj, hlt, rfl⟩
      rcases List.mem_cons.mp hb with hb' | hb'
      · subst hb'
        rw [hoI] at e
        cases e
        exact (N₂' _ (List.mem_append_left _ (List.mem_singleton.mpr rfl))).1
      · have hb'' := List.mem_singleton.mp hb'
        subst hb''
        have e1 := (N₁ _ (hJa _ _ _ hJ)).1
        rw [e1] at e
        cases e
        exact (N₂' _ (List.mem_append_right _ (hJa _ _ _ hj))).1
    cases f with
    | ret v => exact q
    | brk => exact q
    | next => exact fin q
    | cont => exact fin q
  · have hin : i = n := by omega
    subst hin
    refine W.done _ _ _ hst' fun h₁ tk₁ hk₁ => ?_
    obtain ⟨F₁, N₁⟩ := next h₁ hk₁
    exact wpAny_execs_nil (done m' nx h₁ tk₁ hJ F₁ N₁)
theorem forOwnL {I ax : Addr} {oa : Obj} {n : Nat} {P : Nat → Value → Prop} {St : Nat → Heap → Prop} (W : Walks prog w A I [I, ax] [I] n P St) (hI : h₀.get? I = none) (hL : L ≠ I) (hst : St 0 s.heap) (F : Fr h₀ L s.heap m) (N : News h₀ L s.heap news) (hnw : ∀ p ∈ news, p.1 ≠ I)
    (hgone : ∀ i h, St i h → ∃ o, h.get? I = some o)
    (J : Nat → (PySem.Str → Option Value) → List (Addr × Obj) → Prop) (hJa : ∀ i m nx, J i m nx → (ax, oa) ∈ nx) (h0 : J 0 m news)
    (turn : ∀ i v m₁ nx h tk oI, i < n → P i v → J i m₁ nx → (∀ p ∈ nx, p.1 ≠ I) → Fr h₀ L h m₁ → News h₀ L h ((I, oI) :: nx) →
      wpAny (model prog w) A (assign target env v) (fun _ s₁ => wpAny (model prog w) A (execs body env) (TurnQ h₀ L I [(I, oI)] (J (i + 1)) s Q) E s₁) E { s with heap := h, toks := tk })
    (done : ∀ m₁ nx h tk, J n m₁ nx → Fr h₀ L h m₁ → News h₀ L h nx → Q .next { s with heap := h, toks := tk })
    (hE : PassesOwn (model prog w) A env E) (ht : ∀ v, letOwnedTupleGo target (.ref I) v = pure ()) :
    codeAny (model prog w) A (.forLoop target (.ref I) body [] env) (fun r s' => match r with | .ok f => Q f s' | .error e => cameBackBy (model prog w) A env E e s') s :=
  forOwnG W hI hL hst F N hnw hgone J hJa h0 turn done hE (fun _ v _ _ _ _ _ h => by rw [ht v]; exact wpAny_pure h)
/-- what a turn over a list's items leaves: the ledger as it was, and every name but the loop's own -/
noncomputable def ListJ (news : List (Addr × Obj)) (x : PySem.Str) (m₀ : PySem.Str → Option Value) (m : PySem.Str → Option Value) (nx : List (Addr × Obj)) : Prop := nx = news ∧ ∀ z, z ≠ x → m z = m₀ z
theorem list_turn {I : Addr} {oI : Obj} {l : List (Addr × Obj)} {x : PySem.Str} {m₀ m' : PySem.Str → Option Value} {h' : Heap} {tk : Nat} (F : Fr h₀ L h' m') (N : News h₀ L h' l) (hi : ∀ p ∈ news, p.1 ≠ I) (h1 : (I, oI) ∈ l) (h2 : ∀ p ∈ news, p ∈ l) (hm : ∀ z, z ≠ x → m' z = m₀ z) :
    TurnNext h₀ L I [(I, oI)] (ListJ news x m₀) s { s with heap := h', toks := tk } :=
  ⟨h', tk, m', news, rfl, F, fun p hp => by
    rcases List.mem_cons.mp hp with rfl | hp
    · exact N _ h1
    · exact N _ (h2 p hp), hi, rfl, hm⟩
theorem iter_listN {ax : Addr} {vs : Array Value} {n0 : Nat} {x : PySem.Str} {px : Pos} {m₀ : PySem.Str → Option Value} (hh : A.handled = none) (F : Fr h₀ env.locals s.heap m₀) (N : News h₀ env.locals s.heap news) (hm : (ax, listOf vs n0) ∈ news)
    (hx : env.kindOf x = some .local) (hp : (env.scope.kind == .class || (env.scope.kind == .module && env.locals != env.globals)) = false)
    (turn : ∀ (I : Addr) (i : Nat) (v : Value) (h : Heap) (tk : Nat) (oI : Obj), vs[i]? = some v → (∀ p ∈ news, p.1 ≠ I) → Fr h₀ env.locals h (fun z => if z = x then some v else m₀ z) → News h₀ env.locals h ((I, oI) :: news) →
      wpAny (model prog w) A (execs body env) (TurnQ h₀ env.locals I [(I, oI)] (ListJ news x m₀) s Q) E { s with heap := h, toks := tk })
    (done : ∀ (u : Option Value) h tk, Fr h₀ env.locals h (fun z => if z = x then u else m₀ z) → News h₀ env.locals h news → Q .next { s with heap := h, toks := tk })
    (hE : PassesOwn (model prog w) A env E) :
    wpAny (model prog w) A (pyIter (.ref ax)) (fun it s₂ => codeAny (model prog w) A (.forLoop (.Name x px) it body [] env) (fun r s' => match r with | .ok f => Q f s' | .error e => cameBackBy (model prog w) A env E e s') s₂) E s := by
  have eqm : ∀ (m₁ : PySem.Str → Option Value), (∀ z, z ≠ x → m₁ z = m₀ z) → m₁ = fun z => if z = x then m₁ x else m₀ z := by
    intro m₁ e2
    funext z
    by_cases h1 : z = x
    · simp [h1]
    · simp [h1, e2 z h1]
  have hls : s.heap.IsList ax vs := ⟨_, (N _ hm).1, rfl, _, rfl⟩
  refine wpAny_pyIter_list hls ?_
  have hlt : ax < s.heap.objs.size := Heap.lt_size (N _ hm).1
  refine forOwnL (oa := listOf vs n0) (s := { s with heap := s.heap.push _ }) (Walks.list hh s.heap.objs.size ax (Nat.ne_of_lt hlt) vs) ?_ (Nat.ne_of_lt F.ns.lt) ⟨⟨_, Heap.get?_push_size _ rfl, rfl, rfl⟩, hls.at fun o e => Heap.get?_push_of_some _ e⟩ (F.push _) (fun p hp => ⟨Heap.get?_push_of_some _ (N p hp).1, (N p hp).2⟩) (fun p hp => Nat.ne_of_lt (Heap.lt_size (N p hp).1))
    (fun i h st => by obtain ⟨o, e, _⟩ := st.1; exact ⟨o, e⟩) (fun _ m nx => ListJ news x m₀ m nx) (fun _ _ _ j => j.1 ▸ hm) ⟨rfl, fun _ _ => rfl⟩ ?_ ?_ hE (fun _ => rfl)
  · exact next_is_new F
  · rintro i v m₁ nx h tk oI hi hv ⟨rfl, e2⟩ ha F₁ N₁
    refine wpAny_assign_Name (wpAny_storeName_local hx F₁.ns (fun h₂ hn₂ hs₂ => ?_) hp)
    have F₂ := F₁.set hn₂ hs₂
    have e : (fun z => if z = x then some v else m₁ z) = fun z => if z = x then some v else m₀ z := by
      funext z
      by_cases h1 : z = x
      · simp [h1]
      · simp [h1, e2 z h1]
    rw [e] at F₂
    exact turn _ i v h₂ _ oI hv ha F₂ (N₁.set hs₂)
  · rintro m₁ nx h tk ⟨rfl, e2⟩ F₁ N₁
    rw [eqm m₁ e2] at F₁
    exact done (m₁ x) h tk F₁ N₁
end
end Mine
end
section

open PySem PySem.W PyProof.Rows PySem.Calls PySem.Spec Builtin Builtin.Str
set_option maxRecDepth 100000
set_option maxHeartbeats 400000
namespace Mine
/-- the signs of a text -/
noncomputable abbrev sg (x : PySem.Str) : List Nat := x.cps.toList
theorem sg_append (a b : PySem.Str) : sg (a ++ b) = sg a ++ sg b := by
  show (a ++ b).cps.toList = _
  rw [PySem.Str.cps_append, Array.toList_append]
theorem sg_length (x : PySem.Str) : (sg x).length = x.length := by simp [sg, PySem.Str.length]
/-- the digits of a number -/
noncomputable def dg (n : Nat) : List Nat := (Nat.toDigits 10 n).map Char.toNat
theorem dc_val : ∀ d : Fin 10, (Nat.digitChar d.val).toNat = 48 + d.val := by decide
theorem dg_lt {n : Nat} (h : n < 10) : dg n = [48 + n] := by
  unfold dg; rw [Nat.toDigits_of_lt_base h, List.map_cons, List.map_nil, dc_val ⟨n, h⟩]
theorem dg_ge {n : Nat} (h : 10 ≤ n) : dg n = dg (n / 10) ++ [48 + n % 10] := by
  unfold dg
  rw [Nat.toDigits_of_base_le (by decide) h, List.map_append, List.map_cons, List.map_nil, dc_val ⟨n % 10, Nat.mod_lt _ (by decide)⟩]
theorem dg_digit : ∀ n : Nat, ∀ c ∈ dg n, 48 ≤ c ∧ c < 58 := by
  intro n
  induction n using Nat.strongRecOn with
  | ind n ih =>
    intro c hc
    by_cases h : n < 10
    · rw [dg_lt h, List.mem_singleton] at hc; omega
    · rw [dg_ge (by omega)] at hc
      rcases List.mem_append.mp hc with hc | hc
      · exact ih _ (by omega) c hc
      · rw [List.mem_singleton] at hc; omega
theorem dg_val : ∀ n : Nat, (dg n).foldl (fun a c => a * 10 + (c - 48)) 0 = n := by
  intro n
  induction n using Nat.strongRecOn with
  | ind n ih =>
    by_cases h : n < 10
    · rw [dg_lt h]; simp
    · rw [dg_ge (by omega), List.foldl_append, ih _ (by omega)]; simp; omega
theorem dg_ne (n : Nat) : dg n ≠ [] := by
  by_cases h : n < 10
  · rw [dg_lt h]; simp
  · rw [dg_ge (by omega)]; simp
theorem dg_head : ∀ n : Nat, 0 < n → (dg n).head? ≠ some 48 := by
  intro n
  induction n using Nat.strongRecOn with
  | ind n ih =>
    intro h0
    by_cases h : n < 10
    · rw [dg_lt h]; simp; omega
    · rw [dg_ge (by omega)]
      have := ih (n / 10) (by omega) (by omega)
      have hne := dg_ne (n / 10)
      cases e : dg (n / 10) with
      | nil => exact absurd e hne
      | cons c r => rw [e] at this; simpa using this
theorem dg_zero {n : Nat} {c : Nat} {r : List Nat} (h : dg n = c :: r) (hr : r ≠ []) : c ≠ 48 := by
  intro hc
  subst hc
  by_cases h0 : 0 < n
  · have := dg_head n h0; rw [h] at this; simp at this
  · have : n = 0 := by omega
    subst this
    rw [dg_lt (by decide)] at h
    simp at h
    exact hr h
theorem sg_nat (n : Nat) : sg (PySem.Str.ofString (toString n)) = dg n := by
  show (PySem.Str.ofString (toString n)).cps.toList = _
  rw [signs_ofString, Nat.toString_eq_ofList_toDigits]
  simp [dg]
theorem sg_int_nn {n : Int} (h : 0 ≤ n) : sg (PySem.Str.ofString (toString n)) = dg n.natAbs := by
  obtain ⟨k, rfl⟩ := Int.eq_ofNat_of_zero_le h
  exact sg_nat k
theorem sg_int_neg {n : Int} (h : n < 0) : sg (PySem.Str.ofString (toString n)) = 45 :: dg n.natAbs := by
  obtain ⟨k, rfl⟩ := Int.eq_negSucc_of_lt_zero h
  have e : (toString (Int.negSucc k) : String) = "-" ++ toString (k + 1) := rfl
  show (PySem.Str.ofString _).cps.toList = _
  rw [signs_ofString, e, String.toList_append, List.map_append, Nat.toString_eq_ofList_toDigits]
  simp [dg, Int.natAbs]
end Mine
end
section

open PySem PySem.W PyProof.Rows PySem.Calls PySem.Spec Builtin Builtin.Str
set_option maxRecDepth 100000
set_option maxHeartbeats 400000
namespace Mine
mutual
/-- the data of law 03 -/
noncomputable def OkD : PyData → Prop
  | .none => True
  | .bool _ => True
  | .int n => n.natAbs < 1000000
  | .str x => okText x ∧ x.length ≤ 4
  | .list xs => OkAll xs
  | .tuple xs => OkAll xs
  | .dict _ => False
noncomputable def OkAll : List PyData → Prop
  | [] => True
  | x :: xs => OkD x ∧ OkAll xs
end
mutual
/-- the ledger bears the datum at the value -/
noncomputable def Bd (news : List (Addr × Obj)) : PyData → Value → Prop
  | .none, v => v = .none
  | .bool b, v => v = .bool b
  | .int n, v => ∃ k, v = .int n k
  | .str x, v => ∃ k, v = .str x k
  | .list ds, v => ∃ a vs n, v = .ref a ∧ (a, W.listOf vs.toArray n) ∈ news ∧ BdAll news ds vs
  | .tuple ds, v => ∃ a vs n, v = .ref a ∧ (a, ({ cls := .type "tuple", data := .seq vs.toArray n } : Obj)) ∈ news ∧ BdAll news ds vs
  | .dict _, _ => False
noncomputable def BdAll (news : List (Addr × Obj)) : List PyData → List Value → Prop
  | [], vs => vs = []
  | d :: ds, vs => ∃ v r, vs = v :: r ∧ Bd news d v ∧ BdAll news ds r
end
mutual
theorem Bd.mono {news news' : List (Addr × Obj)} (hs : ∀ p ∈ news, p ∈ news') : ∀ {d : PyData} {v : Value}, Bd news d v → Bd news' d v
  | .none, _, h => by simpa only [Bd] using h
  | .bool _, _, h => by simpa only [Bd] using h
  | .int _, _, h => by simpa only [Bd] using h
  | .str _, _, h => by simpa only [Bd] using h
  | .list ds, v, h => by
    simp only [Bd] at h ⊢
    obtain ⟨a, vs, n, e, hm, r⟩ := h
    exact ⟨a, vs, n, e, hs _ hm, BdAll.mono hs r⟩
  | .tuple ds, v, h => by
    simp only [Bd] at h ⊢
    obtain ⟨a, vs, n, e, hm, r⟩ := h
    exact ⟨a, vs, n, e, hs _ hm, BdAll.mono hs r⟩
  | .dict _, _, h => by simp only [Bd] at h
theorem BdAll.mono {news news' : List (Addr × Obj)} (hs : ∀ p ∈ news, p ∈ news') : ∀ {ds : List PyData} {vs : List Value}, BdAll news ds vs → BdAll news' ds vs
  | [], _, h => by simpa only [BdAll] using h
  | d :: ds, vs, h => by
    simp only [BdAll] at h ⊢
    obtain ⟨v, r, e, h1, h2⟩ := h
    exact ⟨v, r, e, Bd.mono hs h1, BdAll.mono hs h2⟩
end
mutual
theorem Bd.reads {news : List (Addr × Obj)} {h : Heap} (B : Bears h news) : ∀ {d : PyData} {v : Value}, Bd news d v → ∃ as, Reads h v d as
  | .none, _, e => by simp only [Bd] at e; subst e; exact ⟨_, .none⟩
  | .bool _, _, e => by simp only [Bd] at e; subst e; exact ⟨_, .bool _⟩
  | .int _, _, e => by simp only [Bd] at e; obtain ⟨k, rfl⟩ := e; exact ⟨_, .int _ _⟩
  | .str _, _, e => by simp only [Bd] at e; obtain ⟨k, rfl⟩ := e; exact ⟨_, .str _ _⟩
  | .list ds, v, e => by
    simp only [Bd] at e
    obtain ⟨a, vs, n, rfl, hm, r⟩ := e
    obtain ⟨as, hr⟩ := BdAll.reads B r
    exact ⟨_, .list (B _ hm) rfl rfl hr⟩
  | .tuple ds, v, e => by
    simp only [Bd] at e
    obtain ⟨a, vs, n, rfl, hm, r⟩ := e
    obtain ⟨as, hr⟩ := BdAll.reads B r
    exact ⟨_, .tuple (B _ hm) rfl rfl hr⟩
  | .dict _, _, e => by simp only [Bd] at e
theorem BdAll.reads {news : List (Addr × Obj)} {h : Heap} (B : Bears h news) : ∀ {ds : List PyData} {vs : List Value}, BdAll news ds vs → ∃ as, ReadsAll h vs ds as
  | [], _, e => by simp only [BdAll] at e; subst e; exact ⟨_, .nil⟩
  | d :: ds, vs, e => by
    simp only [BdAll] at e
    obtain ⟨v, r, rfl, h1, h2⟩ := e
    obtain ⟨as, ha⟩ := Bd.reads B h1
    obtain ⟨bs, hb⟩ := BdAll.reads B h2
    exact ⟨_, .cons ha hb⟩
end
theorem BdAll.length {news : List (Addr × Obj)} : ∀ {ds : List PyData} {vs : List Value}, BdAll news ds vs → vs.length = ds.length
  | [], _, h => by simp only [BdAll] at h; subst h; rfl
  | d :: ds, vs, h => by
    simp only [BdAll] at h
    obtain ⟨v, r, rfl, _, h2⟩ := h
    simp only [List.length_cons, BdAll.length h2]
theorem BdAll.get {news : List (Addr × Obj)} : ∀ {ds : List PyData} {vs : List Value} {i : Nat} {d : PyData}, BdAll news ds vs → ds[i]? = some d → ∃ v, vs[i]? = some v ∧ Bd news d v
  | [], _, _, _, _, e => by simp at e
  | d :: ds, vs, i, d', h, e => by
    simp only [BdAll] at h
    obtain ⟨v, r, rfl, h1, h2⟩ := h
    cases i with
    | zero => simp at e; subst e; exact ⟨v, rfl, h1⟩
    | succ i =>
      have e' : ds[i]? = some d' := by simpa using e
      obtain ⟨u, h3, h4⟩ := BdAll.get h2 e'
      exact ⟨u, by simpa using h3, h4⟩
theorem BdAll.snoc {news : List (Addr × Obj)} {d : PyData} {v : Value} : ∀ {ds : List PyData} {vs : List Value}, BdAll news ds vs → Bd news d v → BdAll news (ds ++ [d]) (vs ++ [v])
  | [], _, h, hd => by simp only [BdAll] at h; subst h; simp only [List.nil_append, BdAll]; exact ⟨v, [], rfl, hd, rfl⟩
  | e :: ds, vs, h, hd => by
    simp only [BdAll] at h
    obtain ⟨u, r, rfl, h1, h2⟩ := h
    simp only [List.cons_append, BdAll]
    exact ⟨u, r ++ [v], rfl, h1, BdAll.snoc h2 hd⟩
theorem BdAll.append {news : List (Addr × Obj)} : ∀ {ds es : List PyData} {vs us : List Value}, BdAll news ds vs → BdAll news es us → BdAll news (ds ++ es) (vs ++ us)
  | [], _, _, _, h, hd => by simp only [BdAll] at h; subst h; exact hd
  | e :: ds, es, vs, us, h, hd => by
    simp only [BdAll] at h
    obtain ⟨u, r, rfl, h1, h2⟩ := h
    simp only [List.cons_append, BdAll]
    exact ⟨u, r ++ us, rfl, h1, BdAll.append h2 hd⟩
theorem BdAll.take {news : List (Addr × Obj)} : ∀ {ds : List PyData} {vs : List Value} (n : Nat), BdAll news ds vs → BdAll news (ds.take n) (vs.take n)
  | [], _, _, h => by simp only [BdAll] at h; subst h; simp [BdAll]
  | d :: ds, vs, 0, h => by simp [BdAll]
  | d :: ds, vs, n + 1, h => by
    simp only [BdAll] at h
    obtain ⟨v, r, rfl, h1, h2⟩ := h
    simp only [List.take_succ_cons, BdAll]
    exact ⟨v, _, rfl, h1, BdAll.take n h2⟩
theorem BdAll.drop {news : List (Addr × Obj)} : ∀ {ds : List PyData} {vs : List Value} (n : Nat), BdAll news ds vs → BdAll news (ds.drop n) (vs.drop n)
  | [], _, _, h => by simp only [BdAll] at h; subst h; simp [BdAll]
  | d :: ds, vs, 0, h => by simpa using h
  | d :: ds, vs, n + 1, h => by
    simp only [BdAll] at h
    obtain ⟨v, r, rfl, h1, h2⟩ := h
    simp only [List.drop_succ_cons]
    exact BdAll.drop n h2
mutual
theorem OkD.showable : ∀ {d : PyData}, OkD d → d.showable = true
  | .none, _ => by simp only [PyData.showable]
  | .bool _, _ => by simp only [PyData.showable]
  | .int n, h => by
    simp only [OkD] at h
    simp only [PyData.showable, decide_eq_true_eq]
    by_cases hz : n.natAbs = 0
    · rw [hz]; decide
    · exact Nat.lt_of_lt_of_le ((Nat.log2_lt hz).2 (Nat.lt_of_lt_of_le h (by decide : 1000000 ≤ 2 ^ 20))) (by decide)
  | .str _, _ => by simp only [PyData.showable]
  | .list xs, h => by simp only [OkD] at h; simp only [PyData.showable]; exact OkAll.showable h
  | .tuple xs, h => by simp only [OkD] at h; simp only [PyData.showable]; exact OkAll.showable h
  | .dict _, h => by simp only [OkD] at h
theorem OkAll.showable : ∀ {ds : List PyData}, OkAll ds → PyData.showableAll ds = true
  | [], _ => by simp only [PyData.showableAll]
  | d :: ds, h => by
    simp only [OkAll] at h
    simp only [PyData.showableAll, OkD.showable h.1, OkAll.showable h.2, Bool.and_self]
end
mutual
theorem OkD.canLay : ∀ {d : PyData}, OkD d → d.canLay0 = true
  | .none, _ => by simp only [PyData.canLay0]
  | .bool _, _ => by simp only [PyData.canLay0]
  | .int n, _ => by simp only [PyData.canLay0]
  | .str x, h => by simp only [OkD] at h; simp only [PyData.canLay0]; exact ascii_ok (okText_ascii h.1)
  | .list xs, h => by simp only [OkD] at h; simp only [PyData.canLay0]; exact OkAll.canLay h
  | .tuple xs, h => by simp only [OkD] at h; simp only [PyData.canLay0]; exact OkAll.canLay h
  | .dict _, h => by simp only [OkD] at h
theorem OkAll.canLay : ∀ {ds : List PyData}, OkAll ds → PyData.canLayAll0 ds = true
  | [], _ => by simp only [PyData.canLayAll0]
  | d :: ds, h => by
    simp only [OkAll] at h
    simp only [PyData.canLayAll0, OkD.canLay h.1, OkAll.canLay h.2, Bool.and_self]
end
theorem OkAll.get : ∀ {ds : List PyData} {i : Nat} {d : PyData}, OkAll ds → ds[i]? = some d → OkD d
  | [], _, _, _, e => by simp at e
  | d :: ds, i, d', h, e => by
    simp only [OkAll] at h
    cases i with
    | zero => simp at e; subst e; exact h.1
    | succ i => simp at e; exact OkAll.get h.2 (by simpa using e)
theorem OkAll.append : ∀ {ds es : List PyData}, OkAll ds → OkAll es → OkAll (ds ++ es)
  | [], _, _, h => h
  | d :: ds, es, h, h' => by simp only [OkAll] at h; simp only [List.cons_append, OkAll]; exact ⟨h.1, OkAll.append h.2 h'⟩
theorem OkAll.take : ∀ {ds : List PyData} (n : Nat), OkAll ds → OkAll (ds.take n)
  | [], _, h => by simpa using h
  | d :: ds, 0, h => by simp [OkAll]
  | d :: ds, n + 1, h => by simp only [OkAll] at h; simp only [List.take_succ_cons, OkAll]; exact ⟨h.1, OkAll.take n h.2⟩
theorem OkAll.drop : ∀ {ds : List PyData} (n : Nat), OkAll ds → OkAll (ds.drop n)
  | [], _, h => by simpa using h
  | d :: ds, 0, h => by simpa using h
  | d :: ds, n + 1, h => by simp only [OkAll] at h; simp only [List.drop_succ_cons]; exact OkAll.drop n h.2
theorem depth_get : ∀ {ds : List PyData} {i : Nat} {d : PyData}, ds[i]? = some d → d.depth ≤ PyData.depthAll ds
  | [], _, _, e => by simp at e
  | d :: ds, i, d', e => by
    simp only [PyData.depthAll]
    cases i with
    | zero => simp at e; subst e; omega
    | succ i => simp at e; have := depth_get (ds := ds) (i := i) (by simpa using e); omega
theorem depth_append (ds es : List PyData) : PyData.depthAll (ds ++ es) = max (PyData.depthAll ds) (PyData.depthAll es) := by
  induction ds with
  | nil => simp [PyData.depthAll]
  | cons d ds ih => simp only [List.cons_append, PyData.depthAll, ih]; omega
theorem depth_take (ds : List PyData) (n : Nat) : PyData.depthAll (ds.take n) ≤ PyData.depthAll ds := by
  have := depth_append (ds.take n) (ds.drop n); rw [List.take_append_drop] at this; omega
theorem depth_drop (ds : List PyData) (n : Nat) : PyData.depthAll (ds.drop n) ≤ PyData.depthAll ds := by
  have := depth_append (ds.take n) (ds.drop n); rw [List.take_append_drop] at this; omega
theorem Bd.shows {prog : Program} {w : World} {news : List (Addr × Obj)} {d : PyData} {v : Value} (h : Bd news d v) (ok : OkD d) (hdep : d.depth ≤ 90) (hsz : d.shown.length ≤ 100000) : ShowsN prog w news v d.shown := by
  refine ⟨hsz, fun hp B => ?_⟩
  obtain ⟨as, r⟩ := Bd.reads B h
  cases d with
  | none => simp only [Bd] at h; subst h; rw [PyData.shown_none]; exact Shows.none
  | bool b => simp only [Bd] at h; subst h; rw [PyData.shown_bool]; cases b <;> exact Shows.bool _
  | int n =>
    simp only [Bd] at h; obtain ⟨k, rfl⟩ := h
    rw [PyData.shown_int]
    refine Shows.int _ _ ?_
    have := OkD.showable ok
    simpa only [PyData.showable, decide_eq_true_eq] using this
  | str x =>
    simp only [Bd] at h; obtain ⟨k, rfl⟩ := h
    rw [PyData.shown_str] at hsz ⊢
    exact Shows.str _ _ (by rw [sizeLine_eq]; omega)
  | list ds =>
    have hd := PyData.hasDict_of_canLay _ (OkD.canLay ok)
    simp only [Bd] at h; obtain ⟨a, vs, n, rfl, _⟩ := h
    exact Shows.reads r (OkD.showable ok) hd hdep (by rw [sizeLine_eq]; omega)
  | tuple ds =>
    have hd := PyData.hasDict_of_canLay _ (OkD.canLay ok)
    simp only [Bd] at h; obtain ⟨a, vs, n, rfl, _⟩ := h
    exact Shows.reads r (OkD.showable ok) hd hdep (by rw [sizeLine_eq]; omega)
  | dict _ => simp only [OkD] at ok
end Mine
end
section

open PySem PySem.W PyProof.Rows PySem.Calls PySem.Spec
set_option maxRecDepth 100000
set_option maxHeartbeats 400000
namespace Mine
/-- the test of a comprehension's turn came out false, and the ledger stands -/
noncomputable def TestNo (h₀ : Heap) (L : Addr) (m : Str → Option Value) (all : List (Addr × Obj)) (s : Shared) (ok : Bool) (s' : Shared) : Prop :=
  ok = false ∧ ∃ h' tk', s' = { s with heap := h', toks := tk' } ∧ Fr h₀ L h' m ∧ News h₀ L h' all
section
variable {prog : Program} {w : World} {A : Around} {h₀ : Heap} {L : Addr} {m : Str → Option Value} {env : Env} {ct elt : Expr} {x : Str} {scope : Scope} {cl : List (Str × Addr)} {s : Shared} {Fin : List Value → List (Addr × Obj) → Prop} {news : List (Addr × Obj)}
theorem restT {n : Nat}
    (turn : ∀ (i : Nat) t I oI C oC D m₂ h tk (E' : Value → Shared → Prop), i < n → LCg.NsObj oC m₂ → m₂ x = some (.int (i : Int) t) → Fr h₀ L h m → News h₀ L h ((I, oI) :: (C, oC) :: (D, LCg.lst []) :: news) → LCg.Off3 I C D news → ((@Ne Nat I C) ∧ (@Ne Nat I D) ∧ (@Ne Nat C D)) →
      wpAny (model prog w) A (isTrue ct (compEnvC scope cl C env) (eval ct (compEnvC scope cl C env))) (TestNo h₀ L m ((I, oI) :: (C, oC) :: (D, LCg.lst []) :: news) { s with heap := h, toks := tk }) E' { s with heap := h, toks := tk })
    (fin : Fin [] news) : LCt.CompRestT prog w A h₀ L m env ct elt x scope cl s (fun _ => True) (fun i v => ∃ t, v = .int (0 + (i : Int)) t) Fin n 0 [] news := by
  have key : ∀ (j i : Nat), i + j = n → LCt.CompRestT prog w A h₀ L m env ct elt x scope cl s (fun _ => True) (fun i v => ∃ t, v = .int (0 + (i : Int)) t) Fin j i [] news := by
    intro j
    induction j with
    | zero => intro i hi; exact LCt.CompRestT.zero fin
    | succ j ih =>
      intro i hi
      refine LCt.CompRestT.succ ?_
      rintro v I oI C oC D m₂ h tk E' ⟨t, rfl⟩ hC hx F N off ne
      rw [Int.zero_add] at hx
      refine wpAny_mono (turn i t I oI C oC D m₂ h tk E' (by omega) hC hx F N off ne) (fun ok s₂ hq => ?_) fun _ _ e => e
      obtain ⟨rfl, h', tk', rfl, F', N'⟩ := hq
      simp only [Bool.false_eq_true, if_false]
      exact ⟨h', tk', news, rfl, F', N', off, trivial, ih (i + 1) (by omega)⟩
  exact key n 0 (by omega)
end
section
variable {prog : Program} {w : World} {A : Around} {E : Value → Shared → Prop} {s : Shared} {h₀ : Heap} {L l : Addr} {news : List (Addr × Obj)}
theorem lenL {vs : List Value} {k n : Nat} {Q : Value → Shared → Prop} (N : News h₀ L s.heap news) (hm : (l, W.listOf vs.toArray k) ∈ news) (e : vs.length = n) (hz : n ≤ 16384)
    (h : Q (.int (n : Int) (s.toks + 1)) { s with toks := s.toks + 1 + 1 }) : wpAny (model prog w) A (call (.builtin "len") [.ref l]) Q E s := by
  subst e
  exact len_list (items := vs.toArray) ⟨_, (N _ hm).1, rfl, _, rfl⟩ (by rw [List.size_toArray]; omega) (by rw [List.size_toArray]; exact h)
theorem lenT {vs : List Value} {k n : Nat} {Q : Value → Shared → Prop} (N : News h₀ L s.heap news) (hm : (l, ({ cls := .type "tuple", data := .seq vs.toArray k } : Obj)) ∈ news) (e : vs.length = n) (hz : n ≤ 16384)
    (h : Q (.int (n : Int) (s.toks + 1)) { s with toks := s.toks + 1 + 1 }) : wpAny (model prog w) A (call (.builtin "len") [.ref l]) Q E s := by
  subst e
  exact len_tuple (items := vs.toArray) (News.isTup N hm) (by rw [List.size_toArray]; omega) (by rw [List.size_toArray]; exact h)
theorem itemL {value slice : Expr} {vs : List Value} {k i : Nat} {u : Tok} {v : Value} {Q : Value → Shared → Prop} (N : News h₀ L s.heap news) (hm : (l, W.listOf vs.toArray k) ∈ news) (hz : i ≤ 16384) (hx : vs[i]? = some v) (h : Q v s)
    (hs : subscripted slice false (.ref l) (.int (i : Int) u) = operate [.ref l, .int (i : Int) u] (getItem (.ref l) (.int (i : Int) u))) (hg : ∀ r, letTemporaryGo value (.ref l) r = pure ()) :
    wpAny (model prog w) A (subscriptTail value slice (.ref l) (.int (i : Int) u)) Q E s :=
  item_list (items := vs.toArray) ⟨_, (N _ hm).1, rfl, _, rfl⟩ (by omega) (by omega) (by simpa using hx) h hs hg
theorem itemT {value slice : Expr} {vs : List Value} {k i : Nat} {u : Tok} {v : Value} {Q : Value → Shared → Prop} (N : News h₀ L s.heap news) (hm : (l, ({ cls := .type "tuple", data := .seq vs.toArray k } : Obj)) ∈ news) (hz : i ≤ 16384) (hx : vs[i]? = some v) (h : Q v s)
    (hs : subscripted slice false (.ref l) (.int (i : Int) u) = operate [.ref l, .int (i : Int) u] (getItem (.ref l) (.int (i : Int) u))) :
    wpAny (model prog w) A (subscriptTail value slice (.ref l) (.int (i : Int) u)) Q E s := by
  have hlt : i < vs.length := (List.getElem?_eq_some_iff.mp hx).1
  have e : seqIndex? (i : Int) vs.length = some i := by rw [seqIndex_of (by omega) (by omega), Int.toNat_natCast]
  exact item_tupleT (l := vs) (j := i) (News.isTup N hm) (by omega) (by omega) e hx h hs
end
/-- two ledgers' sequences bear the same data, place by place -/
noncomputable def PairAt (news : List (Addr × Obj)) (ds : List PyData) (vs1 vs2 : List Value) : Prop := ∀ i, i < ds.length → ∃ d v1 v2, ds[i]? = some d ∧ vs1[i]? = some v1 ∧ vs2[i]? = some v2 ∧ Bd news d v1 ∧ Bd news d v2
theorem pairAt {news : List (Addr × Obj)} {ds : List PyData} {vs1 vs2 : List Value} (b1 : BdAll news ds vs1) (b2 : BdAll news ds vs2) : PairAt news ds vs1 vs2 := by
  intro i hi
  have e : ds[i]? = some ds[i] := List.getElem?_eq_getElem hi
  obtain ⟨v1, h1, h1'⟩ := b1.get e
  obtain ⟨v2, h2, h2'⟩ := b2.get e
  exact ⟨_, v1, v2, e, h1, h2, h1', h2'⟩
theorem range1 (b : Int) : Builtin.Range.rangeSize 0 b 1 = if 0 < b then (b - 1) / 1 + 1 else 0 := by
  unfold Builtin.Range.rangeSize
  simp only [show (1 : Int) > 0 by decide, if_true, Int.sub_zero]
theorem size_step1 (n : Nat) : Builtin.Range.rangeSize 0 (n : Int) 1 = ((n : Nat) : Int) := by
  rw [range1]; split <;> omega
theorem small_step1 {n : Nat} (h1 : n ≤ 16384) : Builtin.Range.small 0 (n : Int) 1 = true := by
  exact small_one (by omega) (by omega) (by omega) (by omega)
end Mine
end
section

open PySem PySem.W PyProof.Rows PySem.Calls PySem.Spec
set_option maxRecDepth 100000
set_option maxHeartbeats 400000
namespace Mine
/-- what stands in the words from a place on -/
noncomputable def AtR (words : Str) (n : Int) (r : List Nat) : Prop := 0 ≤ n ∧ n + r.length = words.length ∧ (sg words).drop n.toNat = r
theorem AtR.skip {words : Str} {n : Int} {p r : List Nat} (h : AtR words n (p ++ r)) : AtR words (n + p.length) r := by
  obtain ⟨h0, h1, h2⟩ := h
  refine ⟨by omega, by rw [List.length_append] at h1; omega, ?_⟩
  rw [show (n + (p.length : Int)).toNat = n.toNat + p.length by omega, ← List.drop_drop, h2]
  simp
theorem AtR.step {words : Str} {n : Int} {c : Nat} {r : List Nat} (h : AtR words n (c :: r)) : AtR words (n + 1) r := h.skip (p := [c])
theorem AtR.start (words : Str) : AtR words 0 (sg words) := ⟨by omega, by rw [sg_length]; omega, by simp⟩
/-- what a turn over a written list of pairs leaves: the ledger as it was, every name but the loop's two, and a word -/
noncomputable def List2J (news : List (Addr × Obj)) (x y : Str) (m₀ : Str → Option Value) (g : Prop) (m : Str → Option Value) (nx : List (Addr × Obj)) : Prop := nx = news ∧ (∀ z, z ≠ x → z ≠ y → m z = m₀ z) ∧ g
section
variable {prog : Program} {w : World} {A : Around} {E : Value → Shared → Prop} {s : Shared} {env : Env} {h₀ : Heap} {L : Addr} {Q : Flow → Shared → Prop} {target : Expr} {body : List Stmt} {m : Str → Option Value} {news : List (Addr × Obj)}
theorem list2_turn {I : Addr} {oI : Obj} {l : List (Addr × Obj)} {x y : Str} {g : Prop} {m₀ m' : Str → Option Value} {h' : Heap} {tk : Nat} (F : Fr h₀ L h' m') (N : News h₀ L h' l) (hi : ∀ p ∈ news, p.1 ≠ I) (h1 : (I, oI) ∈ l) (h2 : ∀ p ∈ news, p ∈ l) (hm : ∀ z, z ≠ x → z ≠ y → m' z = m₀ z) (hg : g) :
    TurnNext h₀ L I [(I, oI)] (List2J news x y m₀ g) s { s with heap := h', toks := tk } :=
  ⟨h', tk, m', news, rfl, F, fun p hp => by
    rcases List.mem_cons.mp hp with rfl | hp
    · exact N _ h1
    · exact N _ (h2 p hp), hi, rfl, hm, hg⟩
theorem iter_list2 {elts : List Expr} {ec : Nat} {ep : Pos} {ax : Addr} {vs : Array Value} {n0 n : Nat} {x y : Str} {m₀ : Str → Option Value} (G : Nat → Prop) (g0 : G 0) (hh : A.handled = none) (F : Fr h₀ env.locals s.heap m₀) (N : News h₀ env.locals s.heap news) (hm : (ax, listOf vs n0) ∈ news) (hn : vs.size = n)
    (turn : ∀ (I : Addr) (i : Nat) (v : Value) (h : Heap) (tk : Nat) (oI : Obj) (u1 u2 : Option Value), vs[i]? = some v → G i → (∀ p ∈ news, p.1 ≠ I) → Fr h₀ env.locals h (fun z => if z = x then u1 else if z = y then u2 else m₀ z) → News h₀ env.locals h ((I, oI) :: news) →
      wpAny (model prog w) A (assign (.Tuple elts ec ep) env v) (fun _ s₁ => wpAny (model prog w) A (execs body env) (TurnQ h₀ env.locals I [(I, oI)] (List2J news x y m₀ (G (i + 1))) s Q) E s₁) E { s with heap := h, toks := tk })
    (done : ∀ (u1 u2 : Option Value) h tk, G n → Fr h₀ env.locals h (fun z => if z = x then u1 else if z = y then u2 else m₀ z) → News h₀ env.locals h news → Q .next { s with heap := h, toks := tk })
    (hE : PassesOwn (model prog w) A env E) (hvr : ∀ (i : Nat) (v : Value), vs[i]? = some v → ∃ T : Addr, v = Value.ref T) :
    wpAny (model prog w) A (pyIter (.ref ax)) (fun it s₂ => codeAny (model prog w) A (.forLoop (.Tuple elts ec ep) it body [] env) (fun r s' => match r with | .ok f => Q f s' | .error e => cameBackBy (model prog w) A env E e s') s₂) E s := by
  have eqm : ∀ (m₁ : Str → Option Value), (∀ z, z ≠ x → z ≠ y → m₁ z = m₀ z) → m₁ = fun z => if z = x then m₁ x else if z = y then m₁ y else m₀ z := by
    intro m₁ e2
    funext z
    by_cases h1 : z = x
    · simp [h1]
    · by_cases h2 : z = y
      · subst h2; simp [h1]
      · simp [h1, h2, e2 z h1 h2]
  have hls : s.heap.IsList ax vs := ⟨_, (N _ hm).1, rfl, _, rfl⟩
  refine wpAny_pyIter_list hls ?_
  have hlt : ax < s.heap.objs.size := Heap.lt_size (N _ hm).1
  refine forOwnG (oa := listOf vs n0) (s := { s with heap := s.heap.push _ }) (Walks.list hh s.heap.objs.size ax (Nat.ne_of_lt hlt) vs) ?_ (Nat.ne_of_lt F.ns.lt) ⟨⟨_, Heap.get?_push_size _ rfl, rfl, rfl⟩, hls.at fun o e => Heap.get?_push_of_some _ e⟩ (F.push _) (fun p hp => ⟨Heap.get?_push_of_some _ (N p hp).1, (N p hp).2⟩) (fun p hp => Nat.ne_of_lt (Heap.lt_size (N p hp).1))
    (fun i h st => by obtain ⟨o, e, _⟩ := st.1; exact ⟨o, e⟩) (fun i m nx => List2J news x y m₀ (G i) m nx) (fun _ _ _ j => j.1 ▸ hm) ⟨rfl, fun _ _ _ => rfl, g0⟩ ?_ ?_ hE (fun i v s Q E hP hst hQ => by obtain ⟨T, rfl⟩ := hvr i v hP; exact wpAny_letOwnedTupleGo_listiter hst.1 hQ)
  · exact next_is_new F
  · rintro i v m₁ nx h tk oI hi hv ⟨rfl, e2, hg⟩ ha F₁ N₁
    rw [eqm m₁ e2] at F₁
    exact turn _ i v h tk oI (m₁ x) (m₁ y) hv hg ha F₁ N₁
  · rintro m₁ nx h tk ⟨rfl, e2, hg⟩ F₁ N₁
    rw [eqm m₁ e2] at F₁
    exact done (m₁ x) (m₁ y) h tk (hn ▸ hg) F₁ N₁
end
theorem three_of {a b c v : Value} {i : Nat} (h : (#[a, b, c] : Array Value)[i]? = some v) : (i = 0 ∧ v = a) ∨ (i = 1 ∧ v = b) ∨ (i = 2 ∧ v = c) := by
  match i, h with
  | 0, h => exact .inl ⟨rfl, by simpa using h.symm⟩
  | 1, h => exact .inr (.inl ⟨rfl, by simpa using h.symm⟩)
  | 2, h => exact .inr (.inr ⟨rfl, by simpa using h.symm⟩)
  | n + 3, h => simp at h
end Mine
end
section

open PySem PySem.W PyProof.Rows PySem.Calls PySem.Spec
set_option maxRecDepth 100000
set_option maxHeartbeats 400000
namespace Mine
theorem slice_at {words : Str} {n k : Int} {r : List Nat} (h : AtR words n r) (hk : 0 ≤ k) : Txt.slice words (some n) (some (n + k)) = ⟨(r.take k.toNat).toArray⟩ := by
  obtain ⟨h0, h1, h2⟩ := h
  show StrLaws.sliceText words (some n) (some (n + k)) = _
  have el : words.cps.toList.length = words.length := sg_length words
  by_cases hc : n + k ≤ words.length
  · rw [StrLaws.sliceText_plain ⟨h0, by omega, by rw [el]; exact hc⟩]
    show (⟨(((sg words).drop n.toNat).take (n + k - n).toNat).toArray⟩ : Str) = _
    rw [h2, show n + k - n = k by omega]
  · have e : StrLaws.sliceText words (some n) (some (n + k)) = StrLaws.sliceText words (some n) (some (words.length : Int)) := by
      have e2 : Builtin.Str.strSliceIndices (some n) (some (n + k)) 1 words.length = Builtin.Str.strSliceIndices (some n) (some (words.length : Int)) 1 words.length := by
        have a1 : ¬ (n + k < 0) := by omega
        have a2 : ¬ ((words.length : Int) < 0) := by omega
        have a3 : min (n + k) (words.length : Int) = words.length := by omega
        simp [Builtin.Str.strSliceIndices, a1, a2, a3]
      unfold StrLaws.sliceText
      rw [e2]
    rw [e, StrLaws.sliceText_plain ⟨h0, by omega, by rw [el]; omega⟩]
    show (⟨(((sg words).drop n.toNat).take ((words.length : Int) - n).toNat).toArray⟩ : Str) = _
    rw [h2, List.take_of_length_le (by omega), List.take_of_length_le (by omega)]
theorem sg_ext {x y : Str} (h : sg x = sg y) : x = y := by
  obtain ⟨⟨a⟩⟩ := x; obtain ⟨⟨b⟩⟩ := y
  have : a = b := h
  rw [this]
theorem txt_yes {x y : Str} (h : sg x = sg y) : (x == y) = true := by rw [sg_ext h]; simp
theorem txt_no {x y : Str} (h : sg x ≠ sg y) : (x == y) = false := by
  rw [beq_eq_false_iff_ne]; rintro rfl; exact h rfl
theorem sl_yes {words lit : Str} {n k : Int} {r l : List Nat} (ha : AtR words n r) (hk : 0 ≤ k) (hl : sg lit = l) (he : r.take k.toNat = l) : (Txt.slice words (some n) (some (n + k)) == lit) = true := by
  rw [slice_at ha hk]; exact txt_yes (by rw [hl, ← he])
theorem sl_no {words lit : Str} {n k : Int} {c c0 : Nat} {r l : List Nat} (ha : AtR words n (c :: r)) (hk : 0 < k) (hl : sg lit = c0 :: l) (hc : c ≠ c0) : (Txt.slice words (some n) (some (n + k)) == lit) = false := by
  rw [slice_at ha (by omega)]
  refine txt_no ?_
  rw [hl]
  intro e
  have e1 : k.toNat = (k.toNat - 1) + 1 := by omega
  rw [e1] at e
  simp [sg] at e
  exact hc e.1
theorem sl_no2 {words lit : Str} {n k : Int} {c c0 c' c1 : Nat} {r l : List Nat} (ha : AtR words n (c :: c' :: r)) (hk : 1 < k) (hl : sg lit = c0 :: c1 :: l) (hc : c' ≠ c1) : (Txt.slice words (some n) (some (n + k)) == lit) = false := by
  rw [slice_at ha (by omega)]
  refine txt_no ?_
  rw [hl]
  intro e
  have e1 : k.toNat = (k.toNat - 2) + 1 + 1 := by omega
  rw [e1] at e
  simp [sg] at e
  exact hc e.2.1
theorem sl_end {words lit : Str} {n k : Int} {c0 : Nat} {l : List Nat} (ha : AtR words n []) (hk : 0 ≤ k) (hl : sg lit = c0 :: l) : (Txt.slice words (some n) (some (n + k)) == lit) = false := by
  rw [slice_at ha hk]
  refine txt_no ?_
  rw [hl]
  simp
theorem lt_None : sg (Str.ofString "None") = [78, 111, 110, 101] := by decide +kernel
theorem lt_True : sg (Str.ofString "True") = [84, 114, 117, 101] := by decide +kernel
theorem lt_False : sg (Str.ofString "False") = [70, 97, 108, 115, 101] := by decide +kernel
theorem lt_q : sg (Str.ofString "'") = [39] := by decide +kernel
theorem lt_d : sg (Str.ofString "\"") = [34] := by decide +kernel
theorem lt_po : sg (Str.ofString "(") = [40] := by decide +kernel
theorem lt_pc : sg (Str.ofString ")") = [41] := by decide +kernel
theorem lt_bo : sg (Str.ofString "[") = [91] := by decide +kernel
theorem lt_bc : sg (Str.ofString "]") = [93] := by decide +kernel
theorem lt_cs : sg (Str.ofString ", ") = [44, 32] := by decide +kernel
theorem lt_cp : sg (Str.ofString ",)") = [44, 41] := by decide +kernel
theorem lt_mi : sg (Str.ofString "-") = [45] := by decide +kernel
theorem lt_ze : sg (Str.ofString "0") = [48] := by decide +kernel
theorem lt_nl : sg (Str.ofString "\n") = [10] := by decide +kernel
theorem lt_bs : sg (Str.ofString "\\") = [92] := by decide +kernel
theorem lt_n : sg (Str.ofString "n") = [110] := by decide +kernel
theorem lt_one (c : Nat) : sg ⟨#[c]⟩ = [c] := rfl
section
variable {prog : Program} {w : World} {A : Around} {E : Value → Shared → Prop} {s : Shared} {x y : Str} {t u : Tok}
theorem eq_is {b : Bool} {Q : Value → Shared → Prop} (h : (x == y) = b) (hq : Q (.bool b) s) : wpAny (model prog w) A (compareOp .Eq (.str x t) (.str y u)) Q E s :=
  PyProof.Rows.eq_str (by rw [h]; exact hq)
theorem ne_is {b : Bool} {Q : Value → Shared → Prop} (h : (x == y) = b) (hq : Q (.bool (!b)) s) : wpAny (model prog w) A (compareOp .NotEq (.str x t) (.str y u)) Q E s :=
  PyProof.Rows.ne_str (by show Q (.bool (!(x == y))) s; rw [h]; exact hq)
end
end Mine
end
section

open PySem PySem.W PyProof.Rows PySem.Calls PySem.Spec
set_option maxRecDepth 100000
set_option maxHeartbeats 400000
namespace Mine
/-- what the reader gives back: the value and the place behind it -/
noncomputable def RdOut (d : PyData) (e : Int) (tl : List (Addr × Obj)) (r : Value) : Prop := ∃ a v t c, r = .ref a ∧ (a, W.listOf #[v, .int e t] c) ∈ tl ∧ Bd tl d v
theorem tlA {a : Addr} {o : Obj} {news : List (Addr × Obj)} (h : ∀ p ∈ news, p.1 < a) : ∀ p ∈ [(a, o)], ∀ q ∈ news, q.1 < p.1 := by
  intro p hp q hq
  rw [List.mem_singleton.mp hp]
  exact h q hq
theorem rd_ret1 {h₀ h' : Heap} {L : Addr} {m : Str → Option Value} {news l : List (Addr × Obj)} {s : Shared} {tk' : Nat} {Q : Value → Shared → Prop} {d : PyData} {e : Int} {a : Addr} {v : Value} {t : Tok} {c : Nat}
    (hret : ∀ r tl h' tk', Fr h₀ L h' m → News h₀ L h' (tl ++ news) → (∀ p ∈ tl, ∀ q ∈ news, q.1 < p.1) → RdOut d e tl r → Q r { s with heap := h', toks := tk' })
    (F : Fr h₀ L h' m) (N : News h₀ L h' l) (hm : (a, W.listOf #[v, .int e t] c) ∈ l) (hs : ∀ p ∈ news, p ∈ l) (ab : ∀ p ∈ news, p.1 < a) (bd : Bd [] d v) : Q (.ref a) { s with heap := h', toks := tk' } := by
  refine hret _ [(a, W.listOf #[v, .int e t] c)] _ _ F (fun p hp => N p ?_) (tlA ab) ⟨_, _, _, _, rfl, List.Mem.head _, Bd.mono (fun p hp => absurd hp List.not_mem_nil) bd⟩
  rcases List.mem_cons.mp hp with rfl | hp
  · exact hm
  · exact hs p hp
theorem AtR.at {words : Str} {n : Int} {c : Nat} {r : List Nat} (h : AtR words n (c :: r)) : words.cps[n.toNat]? = some c := by
  obtain ⟨h0, h1, h2⟩ := h
  have : (sg words)[n.toNat]? = some c := by
    have e := congrArg (fun l => l[0]?) h2
    simpa [sg] using e
  simpa [sg] using this
theorem AtR.item {words : Str} {n : Int} {c : Nat} {r : List Nat} (h : AtR words n (c :: r)) : Txt.item words n = ⟨#[c]⟩ := by
  have e := StrLaws.at_nonneg h.1 h.at
  unfold Txt.item Txt.charAt
  rw [e]
  rfl
theorem AtR.lt {words : Str} {n : Int} {c : Nat} {r : List Nat} (h : AtR words n (c :: r)) : 0 ≤ n ∧ n < words.length := by
  have := h.2.1; have := h.1; simp at *; omega
section
variable {prog : Program} {w : World} {A : Around} {E : Value → Shared → Prop} {s : Shared} {value slice : Expr} {x : Str} {t u : Tok} {Q : Value → Shared → Prop}
theorem item_at {n : Int} {c : Nat} {r : List Nat} (ha : AtR x n (c :: r)) (hw : x.length ≤ 100000) (h : Q (.str ⟨#[c]⟩ s.toks) { s with toks := s.toks + 1 })
    (hs : subscripted slice false (.str x t) (.int n u) = operate [.str x t, .int n u] (getItem (.str x t) (.int n u)))
    (ht : ∀ r, letTemporaryGo value (.str x t) r = pure ()) :
    wpAny (model prog w) A (subscriptTail value slice (.str x t) (.int n u)) Q E s := by
  have h1 := ha.lt
  refine item_str (fitsSsize_of (N := 9223372036854775808) (by omega) (by omega) (Int.le_refl _)) (by omega) h1.2 (fun _ => ?_) hs ht
  rw [ha.item]
  exact h
end
/-- the signs that repr writes for these -/
noncomputable def esc (q : Nat) (l : List Nat) : List Nat := l.flatMap (Builtin.Str.reprChar q)
theorem esc_nil (q : Nat) : esc q [] = [] := rfl
theorem esc_cons (q c : Nat) (l : List Nat) : esc q (c :: l) = Builtin.Str.reprChar q c ++ esc q l := rfl
theorem wr_sg (q : Nat) (l : List Nat) : sg (wr q l) = q :: esc q l := by
  have key : ∀ (l : List Nat) (acc : Array Nat), (l.foldl (fun out c => out ++ (Builtin.Str.reprChar q c).toArray) acc).toList = acc.toList ++ esc q l := by
    intro l
    induction l with
    | nil => intro acc; simp [esc]
    | cons c l ih => intro acc; rw [List.foldl_cons, ih]; simp [esc]
  show (wr q l).cps.toList = _
  unfold wr
  rw [key]
  rfl
theorem reprText_sg (x : Str) : sg (reprText x) = reprQuote x :: (esc (reprQuote x) (sg x) ++ [reprQuote x]) := by
  rw [← wr_end, sg_append, wr_sg]
  rfl
noncomputable abbrev shC (d : PyData) : List Nat := sg d.shown
/-- the state of the text reader's loop -/
structure TxS where
  pos : Int
  out : Str
  i : Nat
  k1 : Tok
  k2 : Tok
noncomputable def TxOk (words x : Str) (q : Nat) (post : List Nat) (c : TxS) : Prop := c.i ≤ (sg x).length ∧ AtR words c.pos (esc q ((sg x).drop c.i) ++ q :: post) ∧ sg c.out = (sg x).take c.i
/-- a goal held back from the walk -/
noncomputable def Held (P : Prop) : Prop := P
theorem held_off {P : Prop} (h : Held P) : P := h
noncomputable def GoI : Prop := True
noncomputable def GoJ : Prop := True
noncomputable def IsB (b : Bool) (s : Shared) (x : Bool) (s' : Shared) : Prop := x = b ∧ ∃ tk, s' = { s with toks := tk }
noncomputable def IsI (n : Int) (s : Shared) (v : Value) (s' : Shared) : Prop := ∃ k tk, v = .int n k ∧ s' = { s with toks := tk }
theorem is_bool {b : Bool} {s : Shared} {t : Nat} : IsB b s b { s with toks := t } := ⟨rfl, t, rfl⟩
theorem is_int {n m : Int} {s : Shared} {k : Tok} {t : Nat} (h : m = n) : IsI n s (.int m k) { s with toks := t } := ⟨k, t, by rw [h], rfl⟩
noncomputable def IsE (s : Shared) (_ : Bool) (s' : Shared) : Prop := ∃ tk, s' = { s with toks := tk }
theorem is_e {b : Bool} {s : Shared} {t : Nat} : IsE s b { s with toks := t } := ⟨t, rfl⟩
noncomputable def IsP (P : Int → Prop) (s : Shared) (v : Value) (s' : Shared) : Prop := ∃ n k tk, P n ∧ v = .int n k ∧ s' = { s with toks := tk }
theorem is_p {P : Int → Prop} {n : Int} {s : Shared} {k : Tok} {t : Nat} (h : P n) : IsP P s (.int n k) { s with toks := t } := ⟨n, k, t, h, rfl, rfl⟩
theorem mono_e {prog : Program} {w : World} {A : Around} {t : Sem Bool} {Q : Bool → Shared → Prop} {E : Value → Shared → Prop} {s : Shared} (hw : wpAny (model prog w) A t (IsE s) E s) (h : ∀ b tk, Q b { s with toks := tk }) : wpAny (model prog w) A t Q E s :=
  wpAny_mono hw (fun b _ o => by obtain ⟨_, rfl⟩ := o; exact h b _) fun _ _ e => e
theorem mono_p {prog : Program} {w : World} {A : Around} {t : Sem Value} {Q : Value → Shared → Prop} {E : Value → Shared → Prop} {s : Shared} (P : Int → Prop) (hw : wpAny (model prog w) A t (IsP P s) E s) (h : ∀ n k tk, P n → Q (.int n k) { s with toks := tk }) : wpAny (model prog w) A t Q E s :=
  wpAny_mono hw (fun _ _ o => by obtain ⟨_, _, _, hp, rfl, rfl⟩ := o; exact h _ _ _ hp) fun _ _ e => e
theorem mono_bool {prog : Program} {w : World} {A : Around} {t : Sem Bool} {Q : Bool → Shared → Prop} {E : Value → Shared → Prop} {s : Shared} {b : Bool} (hw : wpAny (model prog w) A t (IsB b s) E s) (h : ∀ tk, Q b { s with toks := tk }) : wpAny (model prog w) A t Q E s :=
  wpAny_mono hw (fun _ _ o => by obtain ⟨rfl, _, rfl⟩ := o; exact h _) fun _ _ e => e
theorem mono_int {prog : Program} {w : World} {A : Around} {t : Sem Value} {Q : Value → Shared → Prop} {E : Value → Shared → Prop} {s : Shared} {n : Int} (hw : wpAny (model prog w) A t (IsI n s) E s) (h : ∀ k tk, Q (.int n k) { s with toks := tk }) : wpAny (model prog w) A t Q E s :=
  wpAny_mono hw (fun _ _ o => by obtain ⟨_, _, rfl, rfl⟩ := o; exact h _ _) fun _ _ e => e
theorem ch_yes {lit : Str} {c c0 : Nat} (hl : sg lit = [c0]) (hc : c = c0) : ((⟨#[c]⟩ : Str) == lit) = true := txt_yes (by rw [hl, ← hc])
theorem ch_no {lit : Str} {c c0 : Nat} (hl : sg lit = [c0]) (hc : c ≠ c0) : ((⟨#[c]⟩ : Str) == lit) = false := txt_no (by rw [hl]; intro e; exact hc (by simpa [sg] using e))
theorem len1c (c : Nat) : (Str.mk #[c]).length = 1 := rfl
theorem lt_empty : sg (Str.ofString "") = [] := by decide +kernel
theorem len_nl : (Str.ofString "\n").length = 1 := by decide +kernel
section
variable {prog : Program} {w : World} {A : Around} {E : Value → Shared → Prop} {s : Shared}
theorem notinL {h₀ : Heap} {L l : Addr} {news : List (Addr × Obj)} {vs : List Value} {n : Nat} {ys : List Str} {k : Str} {t : Tok} {Q : Value → Shared → Prop} (N : News h₀ L s.heap news) (hm : (l, W.listOf vs.toArray n) ∈ news) (hi : StrsAre vs ys)
    (hv : ys.any (· == k) = true) (h : Q (.bool false) s) : wpAny (model prog w) A (compareOp .NotIn (.str k t) (.ref l)) Q E s :=
  notin_list_strs ⟨_, (N _ hm).1, rfl, _, rfl⟩ hi (by rw [hv]; exact h)
end
theorem nb_any {words : Str} {p : Int} {c q : Nat} {r : List Nat} (ha : AtR words p (c :: r)) (h : c = 92 ∨ c = 110 ∨ c = q) : ([Str.ofString "\\", Str.ofString "n", ⟨#[q]⟩].any (· == Txt.slice words (some p) (some (p + 1)))) = true := by
  rw [slice_at ha (by omega)]
  have e : (⟨((c :: r).take (1 : Int).toNat).toArray⟩ : Str) = ⟨#[c]⟩ := by simp
  rw [e]
  simp only [List.any_cons, List.any_nil, Bool.or_false]
  rcases h with rfl | rfl | rfl
  · rw [show (Str.ofString "\\" == (⟨#[92]⟩ : Str)) = true from txt_yes (by rw [lt_bs])]; rfl
  · rw [show (Str.ofString "n" == (⟨#[110]⟩ : Str)) = true from txt_yes (by rw [lt_n]), Bool.true_or, Bool.or_true]
  · rw [show ((⟨#[c]⟩ : Str) == (⟨#[c]⟩ : Str)) = true from txt_yes rfl, Bool.or_true, Bool.or_true]
open Builtin.Str in
theorem tx_a {x : Str} (h1 : (occurrences x (Str.ofString "'") 0 x.length 1).isEmpty = true) (hq : reprQuote x = 34) : False := by
  have := quote_a h1; omega
open Builtin.Str in
theorem tx_b {x : Str} (h : (true != !!(occurrences x (Str.ofString "\"") 0 x.length 1).isEmpty) = true) (hq : reprQuote x = 34) : False := by
  have h2 : (occurrences x (Str.ofString "\"") 0 x.length 1).isEmpty = false := by simpa using h
  have := quote_b h2; omega
open Builtin.Str in
theorem tx_c {x : Str} (h1 : (occurrences x (Str.ofString "'") 0 x.length 1).isEmpty = false) (h : (false != !!(occurrences x (Str.ofString "\"") 0 x.length 1).isEmpty) = true) (hq : reprQuote x = 39) : False := by
  have h2 : (occurrences x (Str.ofString "\"") 0 x.length 1).isEmpty = true := by simpa using h
  have := quote_c h1 h2; omega
open Builtin.Str in
theorem tx_d {x : Str} (h1 : (occurrences x (Str.ofString "'") 0 x.length 1).isEmpty = true) (h : (false != !(occurrences x (Str.ofString "'") 0 x.length 1).isEmpty) = true) : False := by rw [h1] at h; cases h
end Mine
end
section

open PySem PySem.W PyProof.Rows PySem.Calls PySem.Spec
set_option maxRecDepth 100000
set_option maxHeartbeats 400000
namespace Mine
noncomputable def isDg (c : Nat) : Prop := 48 ≤ c ∧ c < 58
noncomputable def dval (l : List Nat) : Nat := l.foldl (fun a c => a * 10 + (c - 48)) 0
theorem dval_snoc (l : List Nat) (c : Nat) : dval (l ++ [c]) = dval l * 10 + (c - 48) := by simp [dval, List.foldl_append]
theorem fold_le : ∀ (l : List Nat) (a : Nat), a ≤ l.foldl (fun a c => a * 10 + (c - 48)) a
  | [], a => Nat.le_refl _
  | c :: l, a => by
    have := fold_le l (a * 10 + (c - 48))
    simp only [List.foldl_cons]
    omega
theorem dval_take (l : List Nat) (i : Nat) : dval (l.take i) ≤ dval l := by
  have e : dval l = (l.drop i).foldl (fun a c => a * 10 + (c - 48)) (dval (l.take i)) := by
    unfold dval
    rw [← List.foldl_append, List.take_append_drop]
  rw [e]
  exact fold_le _ _
noncomputable abbrev digitsT : Str := Str.ofString "0123456789"
theorem find_tab : ∀ k : Fin 10, Txt.find digitsT ⟨#[48 + k.val]⟩ = (k.val : Int) := by decide +kernel
theorem find_dig {c : Nat} (h : isDg c) : Txt.find digitsT ⟨#[c]⟩ = (c : Int) - 48 := by
  obtain ⟨h1, h2⟩ := h
  have := find_tab ⟨c - 48, by omega⟩
  have e : 48 + (c - 48) = c := by omega
  dsimp only at this
  rw [e] at this
  rw [this]; omega
theorem digits_sg : sg digitsT = [48, 49, 50, 51, 52, 53, 54, 55, 56, 57] := by decide +kernel
theorem in_dig {c : Nat} {b : Bool} (h : b = true ↔ isDg c) : (!(Builtin.Str.occurrences digitsT ⟨#[c]⟩ 0 digitsT.length 1).isEmpty) = b := by
  rw [occ_one, Bool.not_not]
  have e : digitsT.cps.contains c = decide (c ∈ sg digitsT) := by
    rw [← Array.contains_toList]; simp [sg]
  rw [e, digits_sg]
  cases b with
  | true =>
    have := h.mp rfl
    unfold isDg at this
    simp; omega
  | false =>
    have : ¬ isDg c := fun x => by have := h.mpr x; cases this
    unfold isDg at this
    simp; omega
section
variable {prog : Program} {w : World} {A : Around} {E : Value → Shared → Prop} {s : Shared} {t u : Tok} {Q : Value → Shared → Prop}
theorem in_is {c : Nat} {b : Bool} (h : b = true ↔ isDg c) (hq : Q (.bool b) s) : wpAny (model prog w) A (compareOp .In (.str ⟨#[c]⟩ u) (.str digitsT t)) Q E s :=
  PyProof.Rows.in_str (by rw [in_dig h]; exact hq)
theorem find_ch {c : Nat} (h : isDg c) (hq : Q (.int ((c : Int) - 48) s.toks) { s with toks := s.toks + 1 }) : wpAny (model prog w) A (call (.builtin "str.find") [.str digitsT t, .str ⟨#[c]⟩ u]) Q E s :=
  SC.find (by rw [find_dig h]; exact hq)
end
structure IntS where
  pos : Int
  num : Int
  i : Nat
  k1 : Tok
  k2 : Tok
noncomputable def IntOk (words : Str) (ds post : List Nat) (c : IntS) : Prop := c.i ≤ ds.length ∧ AtR words c.pos (ds.drop c.i ++ post) ∧ c.num = (dval (ds.take c.i) : Int)
end Mine
end
section

open PySem PySem.W PyProof.Rows PySem.Calls PySem.Spec
set_option maxRecDepth 100000
set_option maxHeartbeats 400000
namespace Mine
noncomputable def sepC : List PyData → List Nat
  | [] => []
  | d :: r => 44 :: 32 :: (shC d ++ sepC r)
noncomputable def joinC : List PyData → List Nat
  | [] => []
  | d :: r => shC d ++ sepC r
theorem join_sg (d : PyData) : ∀ r : List PyData, sg (Str.join (Str.ofString ", ") (PyData.shownAll (d :: r))) = shC d ++ sepC r := by
  intro r
  induction r generalizing d with
  | nil => simp only [PyData.shownAll, Str.join, sepC, List.append_nil]
  | cons e r ih =>
    have h : Str.join (Str.ofString ", ") (PyData.shownAll (d :: e :: r)) = d.shown ++ Str.ofString ", " ++ Str.join (Str.ofString ", ") (PyData.shownAll (e :: r)) := by
      simp only [PyData.shownAll, Str.join]
    rw [h, sg_append, sg_append, ih, lt_cs]
    simp [sepC]
theorem joined_sg (xs : List PyData) : sg (Str.join (Str.ofString ", ") (PyData.shownAll xs)) = joinC xs := by
  cases xs with
  | nil => simp only [PyData.shownAll, Str.join, joinC]; rfl
  | cons d r => exact join_sg d r
theorem shC_list (xs : List PyData) : shC (.list xs) = 91 :: (joinC xs ++ [93]) := by
  show sg (PyData.list xs).shown = _
  rw [PyData.shown_list]
  show sg (Str.ofString "[" ++ Str.join (Str.ofString ", ") (PyData.shownAll xs) ++ Str.ofString "]") = _
  rw [sg_append, sg_append, joined_sg, lt_bo, lt_bc]
  rfl
theorem shC_tuple (xs : List PyData) : shC (.tuple xs) = 40 :: (joinC xs ++ (if xs.length = 1 then [44, 41] else [41])) := by
  show sg (PyData.tuple xs).shown = _
  rw [PyData.shown_tuple]
  by_cases h : xs.length = 1
  · rw [if_pos h, h]
    show sg (Str.ofString "(" ++ Str.join (Str.ofString ", ") (PyData.shownAll xs) ++ Str.ofString ",)") = _
    rw [sg_append, sg_append, joined_sg, lt_po, lt_cp]
    rfl
  · rw [if_neg h, if_neg (by simpa using h)]
    show sg (Str.ofString "(" ++ Str.join (Str.ofString ", ") (PyData.shownAll xs) ++ Str.ofString ")") = _
    rw [sg_append, sg_append, joined_sg, lt_po, lt_pc]
    rfl
theorem shC_none : shC .none = [78, 111, 110, 101] := by rw [shC, PyData.shown_none]; exact lt_None
theorem shC_true : shC (.bool true) = [84, 114, 117, 101] := by rw [shC, PyData.shown_bool]; exact lt_True
theorem shC_false : shC (.bool false) = [70, 97, 108, 115, 101] := by rw [shC, PyData.shown_bool]; exact lt_False
theorem shC_str (x : Str) : shC (.str x) = reprQuote x :: (esc (reprQuote x) (sg x) ++ [reprQuote x]) := by rw [shC, PyData.shown_str, reprText_sg]
theorem shC_pos {n : Int} (h : 0 ≤ n) : shC (.int n) = dg n.natAbs := by rw [shC, PyData.shown_int]; exact sg_int_nn h
theorem shC_neg {n : Int} (h : n < 0) : shC (.int n) = 45 :: dg n.natAbs := by rw [shC, PyData.shown_int]; exact sg_int_neg h
/-- the first sign of a shown datum is no closing mark, no comma -/
theorem shC_first {d : PyData} (ok : OkD d) : ∃ c r, shC d = c :: r ∧ c ≠ 41 ∧ c ≠ 93 ∧ c ≠ 44 := by
  have dg1 : ∀ k : Nat, ∃ c r, dg k = c :: r ∧ c ≠ 41 ∧ c ≠ 93 ∧ c ≠ 44 := by
    intro k
    cases e : dg k with
    | nil => exact absurd e (dg_ne k)
    | cons c r => have := dg_digit k c (by rw [e]; exact .head _); exact ⟨c, r, rfl, by omega, by omega, by omega⟩
  cases d with
  | none => exact ⟨_, _, shC_none, by decide, by decide, by decide⟩
  | bool b => cases b; exact ⟨_, _, shC_false, by decide, by decide, by decide⟩; exact ⟨_, _, shC_true, by decide, by decide, by decide⟩
  | int n =>
    by_cases h : 0 ≤ n
    · rw [shC_pos h]; exact dg1 _
    · exact ⟨_, _, shC_neg (by omega), by decide, by decide, by decide⟩
  | str x => refine ⟨_, _, shC_str x, ?_⟩; rcases quote_is x with e | e <;> rw [e] <;> decide
  | list xs => exact ⟨_, _, shC_list xs, by decide, by decide, by decide⟩
  | tuple xs => exact ⟨_, _, shC_tuple xs, by decide, by decide, by decide⟩
  | dict _ => simp only [OkD] at ok
/-- no entry lies at P -/
noncomputable def OffP (P : Addr) (R : List (Addr × Obj)) : Prop := ∀ p ∈ R, p.1 ≠ P
section
variable {prog : Program} {w : World} {A : Around} {E : Value → Shared → Prop} {s : Shared} {h₀ : Heap} {L P : Addr} {m : Str → Option Value} {l R : List (Addr × Obj)}
theorem appendP {vs : List Value} {c : Nat} {v : Value} {Q : Value → Shared → Prop} (F : Fr h₀ L s.heap m) (N : News h₀ L s.heap l) (hm : (P, W.listOf vs.toArray c) ∈ l) (hR : OffP P R) (sub : ∀ p ∈ R, p ∈ l) (hz : vs.length ≤ 16384)
    (h : ∀ h', Fr h₀ L h' m → News h₀ L h' ((P, W.listOf (vs ++ [v]).toArray (c + 1)) :: R) → Q .none { s with heap := h' }) : wpAny (model prog w) A (call (.builtin "list.append") [.ref P, v]) Q E s := by
  have N2 : News h₀ L s.heap ((P, W.listOf vs.toArray c) :: R) := fun p hp => by
    rcases List.mem_cons.mp hp with rfl | hp
    · exact N _ hm
    · exact N _ (sub p hp)
  refine append_K (its := vs.toArray) F N2 (.head hR) ?_ (by rw [List.size_toArray, sizeLine_eq]; omega)
  intro h' F' N'
  rw [List.push_toArray] at N'
  exact h h' F' N'
theorem ne_nil {vs : List Value} {c c2 : Nat} {D : Addr} {ds : List PyData} {b : Bool} {Q : Value → Shared → Prop} (N : News h₀ L s.heap l) (hm : (P, W.listOf vs.toArray c) ∈ l) (hm2 : (D, W.listOf #[] c2) ∈ l) {more : List (Addr × Obj)} (hb : BdAll more ds vs) (sub : ∀ p ∈ more, p ∈ l) (ok : OkAll ds) (dep : PyData.depthAll ds ≤ 60) (hu : A.units + 64 < cLine)
    (e : b = !ds.isEmpty) (h : Q (.bool b) s) : wpAny (model prog w) A (compareOp .NotEq (.ref P) (.ref D)) Q E s := by
  have B : Bears s.heap more := fun p hp => (N p (sub p hp)).1
  obtain ⟨as, ra⟩ := BdAll.reads B hb
  have r1 : Reads s.heap (.ref P) (.list ds) (P :: as) := .list (N _ hm).1 rfl rfl ra
  have r2 : Reads s.heap (.ref D) (.list []) (D :: []) := .list (N _ hm2).1 rfl rfl .nil
  refine ne_dataH r1 r2 ?_ (by decide +kernel) hu ?_
  · simp only [SeqAt.shaped, PyData.canLay0, PyData.depth, OkAll.canLay ok, Bool.true_and]; exact decide_eq_true (by omega)
  · have e2 : PyData.eqv (.list ds) (.list []) = ds.isEmpty := by cases ds <;> simp [PyData.eqv, PyData.eqvAll]
    rw [e2, ← e]; exact h
end
theorem row_call {prog : Program} {K : Params → Frag} {p : Program} {w : World} {f : Addr} {D U : Nat} {args : List Value} {d : PyData} {e : Int}
    (C : Callee prog K p w f D U args [] (fun _ => True) (RdOut d e))
    {loose : List PySem.Str} {mean : ExcName → Option Value} {mg mb : PySem.Str → Option Value} {dp un : Nat} {cn : PySem.Str} {cs : Scope} {a : Addr} {ccd : Value} {cl : List (PySem.Str × Addr)} {outer : List Env} {A₀ : Around} {base h₀ : Heap} {L : Addr} {m : PySem.Str → Option Value} {l R : List (Addr × Obj)} {s : Shared}
    {Q E : Value → Shared → Prop} {P : Addr} {o : Obj}
    (B : Below A₀ base outer h₀) (F : Fr h₀ L s.heap m) (X : (K w.params).In h₀) (N : News h₀ L s.heap l) (T : Top p loose mean mg mb h₀) (hk : cs.kind = .function) (hd : dp + D < recursionLimit) (hu : un + U < cLine)
    (hm : (P, o) ∈ l) (hR : OffP P R) (sub : ∀ p ∈ R, p ∈ l)
    (ret : ∀ a v t c tl h' tk', Fr h₀ L h' m → News h₀ L h' ((P, o) :: (tl ++ R)) → OffP P (tl ++ R) → (∀ p ∈ tl, P < p.1) → (a, W.listOf #[v, .int e t] c) ∈ tl ++ R → Bd tl d v → Q (.ref a) { s with heap := h', toks := tk' }) :
    wpAny (model prog w) (ktrTop dp un (some []) cn cs L a ccd cl outer) (call (.ref f) args []) Q E s := by
  refine callee_use C B F X N T hk trivial hd hu ?_
  rintro r tl h' tk' F' N' ab ⟨a, v, t, c, rfl, hma, hbd⟩
  refine ret a v t c tl h' tk' F' (fun p hp => ?_) (fun p hp => ?_) (fun p hp => ab p hp _ hm) (List.mem_append_left _ hma) hbd
  · rcases List.mem_cons.mp hp with rfl | hp
    · exact N' _ (List.mem_append_right _ hm)
    · rcases List.mem_append.mp hp with hp | hp
      · exact N' _ (List.mem_append_left _ hp)
      · exact N' _ (List.mem_append_right _ (sub p hp))
  · rcases List.mem_append.mp hp with hp | hp
    · exact Nat.ne_of_gt (ab p hp _ hm)
    · exact hR p hp
structure RowS where
  pos : Int
  i : Nat
  vs : List Value
  cap : Nat
  more : List (Addr × Obj)
  k1 : Tok
/-- the words' rest when so many parts are read -/
noncomputable def rowRest (ds : List PyData) (i : Nat) (cl : List Nat) : List Nat := (if i = 0 then joinC ds else sepC (ds.drop i)) ++ cl
theorem shC_elim {d : PyData} (ok : OkD d) {G : Prop} (h : ∀ c r, shC d = c :: r → c ≠ 41 → c ≠ 93 → c ≠ 44 → G) : G := by
  obtain ⟨c, r, e, a, b, f⟩ := shC_first ok; exact h c r e a b f
noncomputable def RowOk (words : Str) (ds : List PyData) (cl : List Nat) (P : Addr) (news : List (Addr × Obj)) (G : Nat → Prop) (c : RowS) : Prop :=
  G c.i ∧ c.i ≤ ds.length ∧ AtR words c.pos (rowRest ds c.i cl) ∧ c.vs.length = c.i ∧ BdAll c.more (ds.take c.i) c.vs ∧ OffP P (c.more ++ news) ∧ ∀ p ∈ c.more, P < p.1
noncomputable abbrev rowPs (c : RowS) : List (Str × Value) := [(Str.ofString "at", .int c.pos c.k1)]
noncomputable abbrev rowLed (P : Addr) (news : List (Addr × Obj)) (c : RowS) : List (Addr × Obj) := (P, W.listOf c.vs.toArray c.cap) :: (c.more ++ news)
section
variable {prog : Program} {w : World} {A : Around} {E : Value → Shared → Prop} {Q : Flow → Shared → Prop} {s : Shared} {env : Env} {h₀ : Heap} {L P : Addr}
theorem row_while {test : Expr} {body : List Stmt} {pos : Pos} {m₀ : Str → Option Value} {words : Str} {ds : List PyData} {cl : List Nat} {news : List (Addr × Obj)} {n : Int} {k : Tok} (G : Nat → Prop) (g0 : G 0)
    (F : Fr h₀ L s.heap m₀) (N : News h₀ L s.heap ((P, W.listOf #[] 0) :: news)) (l1 : ∀ p ∈ news, p.1 < P) (hat : m₀ (Str.ofString "at") = some (.int n k)) (ha : AtR words n (rowRest ds 0 cl))
    (turn : ∀ (c : RowS) (u : Str → Option Value) h tk, RowOk words ds cl P news G c → Fr h₀ L h (kstB (fun z => if [Str.ofString "found"].contains z then u z else m₀ z) (rowPs c)) → News h₀ L h ((P, W.listOf c.vs.toArray c.cap) :: (c.more ++ news)) →
      wpAny (model prog w) A (isTrue test env (eval test env)) (fun b s₂ =>
        if b = true then wpAny (model prog w) A (execs body env) (KswPost h₀ L s (rowLed P news) rowPs (RowOk words ds cl P news G) [Str.ofString "found"] m₀ (fun _ => True) (fun c => ds.length - c.i) Q c) E s₂ else Q .next s₂) E { s with heap := h, toks := tk })
    (hE : PassesOwn (model prog w) A env E) :
    wpAny (model prog w) A (exec (.While test body [] pos) env) Q E s := by
  refine ksw_while (rowLed P news) rowPs (RowOk words ds cl P news G) [Str.ofString "found"] (fun _ => True) (fun c => ds.length - c.i) ⟨n, 0, [], 0, [], k⟩ F N ?_ ?_ trivial ?_ hE
  · exact ⟨g0, Nat.zero_le _, ha, rfl, by simp [BdAll], fun p hp => Nat.ne_of_lt (l1 p (by simpa using hp)), fun p hp => absurd hp List.not_mem_nil⟩
  · exact List.forall_mem_cons.mpr ⟨hat, List.forall_mem_nil _⟩
  · intro c u h tk hc _ F9 N9
    exact turn c u h tk hc F9 N9
end
theorem row_end {G : Nat → Prop} {ds : List PyData} {h₀ h' : Heap} {L P : Addr} {s : Shared} {news l tl : List (Addr × Obj)} {m₀ m' : Str → Option Value} {words : Str} {cl : List Nat} {c : RowS} {d : PyData} {v : Value} {pos' : Int} {k' : Tok} {tk : Nat}
    (F : Fr h₀ L h' m') (N : News h₀ L h' l) (hm : (P, W.listOf (c.vs ++ [v]).toArray (c.cap + 1)) ∈ l) (sub : ∀ p ∈ tl ++ (c.more ++ news), p ∈ l)
    (hc : RowOk words ds cl P news G c) (hd : ds[c.i]? = some d) (hbd : Bd tl d v) (off : OffP P (tl ++ (c.more ++ news))) (up : ∀ p ∈ tl, P < p.1) (ha : AtR words pos' (rowRest ds (c.i + 1) cl))
    (hg : G (c.i + 1)) (hat : m' (Str.ofString "at") = some (.int pos' k')) (hr : ∀ z, z ≠ Str.ofString "at" → [Str.ofString "found"].contains z = false → m' z = m₀ z) :
    KswEnd h₀ L s (rowLed P news) rowPs (RowOk words ds cl P news G) [Str.ofString "found"] m₀ (fun _ => True) (fun c => ds.length - c.i) c { s with heap := h', toks := tk } := by
  obtain ⟨h0, h1, h2, h3, h4, h5, h6⟩ := hc
  have hlt : c.i < ds.length := by
    apply Classical.byContradiction
    intro hn
    rw [List.getElem?_eq_none (by omega)] at hd
    cases hd
  refine ksw_end (⟨pos', c.i + 1, c.vs ++ [v], c.cap + 1, tl ++ c.more, k'⟩ : RowS) F N ?_ ?_ ?_ ?_ trivial ?_
  · intro p hp
    rcases List.mem_cons.mp hp with rfl | hp
    · exact hm
    · exact sub p (by simpa [List.append_assoc] using hp)
  · refine ⟨hg, hlt, ha, by simp [h3], ?_, ?_, ?_⟩
    · dsimp only
      rw [List.take_add_one, hd]
      exact BdAll.snoc (BdAll.mono (fun p hp => List.mem_append_right _ hp) h4) (Bd.mono (fun p hp => List.mem_append_left _ hp) hbd)
    · intro p hp
      exact off p (by simpa [List.append_assoc] using hp)
    · intro p hp
      rcases List.mem_append.mp hp with hp | hp
      · exact up p hp
      · exact h6 p hp
  · exact List.forall_mem_cons.mpr ⟨hat, List.forall_mem_nil _⟩
  · intro z hz hz2
    exact hr z (hz _ (List.Mem.head _)) hz2
  · dsimp only; omega
section
variable {prog : Program} {w : World} {A : Around} {E : Value → Shared → Prop} {s : Shared} {h₀ : Heap} {L a : Addr} {l : List (Addr × Obj)} {value slice : Expr} {x y : Value} {k : Nat} {u : Tok} {Q : Value → Shared → Prop}
theorem found0 (N : News h₀ L s.heap l) (hm : (a, W.listOf #[x, y] k) ∈ l) (h : Q x s)
    (hs : subscripted slice false (.ref a) (.int 0 u) = operate [.ref a, .int 0 u] (getItem (.ref a) (.int 0 u))) (hg : ∀ r, letTemporaryGo value (.ref a) r = pure ()) :
    wpAny (model prog w) A (subscriptTail value slice (.ref a) (.int 0 u)) Q E s :=
  item_list (items := #[x, y]) ⟨_, (N _ hm).1, rfl, _, rfl⟩ (by omega) (by omega) rfl h hs hg
theorem found1 (N : News h₀ L s.heap l) (hm : (a, W.listOf #[x, y] k) ∈ l) (h : Q y s)
    (hs : subscripted slice false (.ref a) (.int 1 u) = operate [.ref a, .int 1 u] (getItem (.ref a) (.int 1 u))) (hg : ∀ r, letTemporaryGo value (.ref a) r = pure ()) :
    wpAny (model prog w) A (subscriptTail value slice (.ref a) (.int 1 u)) Q E s :=
  item_list (items := #[x, y]) ⟨_, (N _ hm).1, rfl, _, rfl⟩ (by omega) (by omega) rfl h hs hg
end
theorem row_ret {h₀ h' : Heap} {L : Addr} {m : Str → Option Value} {news l more : List (Addr × Obj)} {s : Shared} {tk' : Nat} {Q : Value → Shared → Prop} {d : PyData} {e : Int} {a P : Addr} {o : Obj} {t : Tok} {c : Nat}
    (hret : ∀ r tl h' tk', Fr h₀ L h' m → News h₀ L h' (tl ++ news) → (∀ p ∈ tl, ∀ q ∈ news, q.1 < p.1) → RdOut d e tl r → Q r { s with heap := h', toks := tk' })
    (F : Fr h₀ L h' m) (N : News h₀ L h' l) (hm : (a, W.listOf #[.ref P, .int e t] c) ∈ l) (hP : (P, o) ∈ l) (sub : ∀ p ∈ more ++ news, p ∈ l) (l1 : ∀ p ∈ news, p.1 < a) (l2 : ∀ p ∈ news, p.1 < P) (l3 : ∀ p ∈ more, ∀ q ∈ news, q.1 < p.1)
    (bd : Bd ((P, o) :: more) d (.ref P)) : Q (.ref a) { s with heap := h', toks := tk' } := by
  refine hret _ ((a, W.listOf #[.ref P, .int e t] c) :: (P, o) :: more) _ _ F (fun p hp => N p ?_) ?_ ⟨_, _, _, _, rfl, List.Mem.head _, Bd.mono (fun p hp => List.Mem.tail _ hp) bd⟩
  · rcases List.mem_cons.mp hp with rfl | hp
    · exact hm
    · rcases List.mem_cons.mp hp with rfl | hp
      · exact hP
      · exact sub p hp
  · intro p hp q hq
    rcases List.mem_cons.mp hp with rfl | hp
    · exact l1 q hq
    · rcases List.mem_cons.mp hp with rfl | hp
      · exact l2 q hq
      · exact l3 p hp q hq
theorem len_snoc {vs : List Value} {v : Value} {i : Nat} (h : vs.length = i) : (vs ++ [v]).length = i + 1 := by simp [h]
theorem rd_pass {h₀ h' : Heap} {L : Addr} {m : Str → Option Value} {news l l0 tl : List (Addr × Obj)} {s : Shared} {tk' : Nat} {Q : Value → Shared → Prop} {out : List (Addr × Obj) → Value → Prop} {r : Value}
    (hret : ∀ r tl h' tk', Fr h₀ L h' m → News h₀ L h' (tl ++ news) → (∀ p ∈ tl, ∀ q ∈ news, q.1 < p.1) → out tl r → Q r { s with heap := h', toks := tk' })
    (F : Fr h₀ L h' m) (N : News h₀ L h' l) (ab : ∀ p ∈ tl, ∀ q ∈ l0, q.1 < p.1) (ho : out tl r) (hs : ∀ p ∈ news, p ∈ l0) (sub : ∀ p ∈ tl ++ news, p ∈ l) : Q r { s with heap := h', toks := tk' } :=
  hret _ _ _ _ F (fun p hp => N p (sub p hp)) (fun p hp q hq => ab p hp q (hs q hq)) ho
end Mine
end
section

open PySem PySem.W PyProof.Rows PySem.Calls PySem.Spec
set_option maxRecDepth 100000
namespace Mine
noncomputable abbrev C3 (w : World) := Callee Challenge.rw_dm0030_03.row.prog Mine.hd.heap_39 Mine.hd.view_39 w
noncomputable def SameAll (w : World) (ds : List PyData) (D U : Nat) : Prop := ∀ (i : Nat) d, ds[i]? = some d → ∀ v1 v2, C3 w 120 D U [v1, v2] [] (fun news => Bd news d v1 ∧ Bd news d v2) (fun tl r => tl = [] ∧ r = .bool true)
noncomputable def ReadAll (w : World) (ds : List PyData) (D U : Nat) : Prop := ∀ (i : Nat) d, ds[i]? = some d → ∀ (words : Str) (n : Int) (post : List Nat) (k k2 : Tok), words.length ≤ 100000 → (∀ c r, post = c :: r → ¬ isDg c) → AtR words n (shC d ++ post) → C3 w 115 D U [.str words k, .int n k2] [] (fun _ => True) (RdOut d (n + ((shC d).length : Nat)))
noncomputable def PassC (w : World) (f : Addr) (D U : Nat) (words : Str) (n : Int) (d : PyData) (e : Int) : Prop := ∀ k k2, C3 w f D U [.str words k, .int n k2] [] (fun _ => True) (RdOut d e)
end Mine
end
section

open PySem PySem.W PyProof.Rows PySem.Calls PySem.Spec
set_option maxRecDepth 100000
set_option maxHeartbeats 400000
namespace Mine
noncomputable abbrev fmt3 : Str := Str.ofString "Recursion limit exceeded in value substitution: option {!r} in section {!r} contains an interpolation key which cannot be substituted in {} steps. Raw value: {!r}"
noncomputable abbrev pc1 : Str := Str.ofString "Recursion limit exceeded in value substitution: option "
noncomputable abbrev pc2 : Str := Str.ofString " in section "
noncomputable abbrev pc3 : Str := Str.ofString " contains an interpolation key which cannot be substituted in "
noncomputable abbrev pc4 : Str := Str.ofString " steps. Raw value: "
noncomputable def told3 (t1 t2 t3 : Str) : Str := pc1 ++ t1 ++ pc2 ++ t2 ++ pc3 ++ Str.ofString (toString (10 : Int)) ++ pc4 ++ t3
noncomputable def pieces3 : List Piece := [(pc1.cps.toList, some (some 114)), (pc2.cps.toList, some (some 114)), (pc3.cps.toList, some none), (pc4.cps.toList, some (some 114))]
theorem parse3 : parse fmt3.cps.toList.length fmt3.cps.toList.length fmt3.cps.toList = some pieces3 := by decide +kernel
theorem glue3 (t1 t2 t3 : Str) : glue Str.empty pieces3 [t1, t2, Str.ofString (toString (10 : Int)), t3] = told3 t1 t2 t3 := by
  simp only [glue, pieces3, told3, mk_toList, Str.empty_append, Str.append_assoc]
theorem pl1 : pc1.cps.toList.length = 55 := by decide +kernel
theorem pl2 : pc2.cps.toList.length = 12 := by decide +kernel
theorem pl3 : pc3.cps.toList.length = 62 := by decide +kernel
theorem pl4 : pc4.cps.toList.length = 19 := by decide +kernel
theorem len10 : (Str.ofString (toString (10 : Int))).length = 2 := by decide +kernel
theorem weigh3 {t1 t2 t3 : Str} (l1 : t1.length ≤ 100000) (l2 : t2.length ≤ 100000) (l3 : t3.length ≤ 100000) : weigh pieces3 [t1, t2, Str.ofString (toString (10 : Int)), t3] ≤ 500000 := by
  simp only [weigh, pieces3, pl1, pl2, pl3, pl4, len10]; omega
theorem fmt3_N {prog : Program} {w : World} {A : Around} {E : Value → Shared → Prop} {s : Shared} {h₀ : Heap} {L : Addr} {m : Str → Option Value} {news news0 : List (Addr × Obj)} {t0 tk0 : Tok} {v1 v2 v3 : Value} {t1 t2 t3 : Str} {Q : Value → Shared → Prop} (F : Fr h₀ L s.heap m) (N : News h₀ L s.heap news) (hs : ∀ p ∈ news0, p ∈ news) (hg : A.guards = some []) (hu : A.units + 120 < cLine)
    (s1 : ShowsN prog w news0 v1 t1) (s2 : ShowsN prog w news0 v2 t2) (s3 : ShowsN prog w news0 v3 t3)
    (h : ∀ h' u tk, Fr h₀ L h' m → News h₀ L h' news → Q (.str (told3 t1 t2 t3) u) { s with heap := h', toks := tk }) :
    wpAny (model prog w) A (call (.builtin "str.format") [.str fmt3 t0, v1, v2, .int 10 tk0, v3]) Q E s := by
  have B := Bears.of N hs
  refine format_run hg (by omega) (args_5 _ _ _ _ _) parse3 (.fld (.repr (s1.2 _ B)) (.fld (.repr (s2.2 _ B)) (.fld (Fld.int (by decide)) (.fld (.repr (s3.2 _ B)) .nil)))) (Nat.le_trans (weigh3 s1.1 s2.1 s3.1) (by decide)) (glue3 t1 t2 t3) (fun h' u tk k => h h' u tk (F.keeps k) (N.grown k))
end Mine
end
section

open PySem PySem.W PyProof.Rows PySem.Calls PySem.Spec
namespace Mine
theorem units_make {A : Around} {C : Addr} {rest : List Value} {kw : List (Str × Value)} : (A.under (.builtin "type.__call__" ⟨.ref C :: rest, kw⟩)).units = A.units + 1 := rfl
theorem kw_T37 : True := by
  k_with_none
  trivial
theorem kw_T37_1 : True := by
  k_with "ktr_room" => (simp only [depth_under_make, depth_under_kw, depth_in1, depth_deeper, depth_caller, ktrTop]; omega)
  k_with "ktr_units" => (simp only [units_make, units_in1, units_deeper, Around.mark_units, units_caller, ktrTop]; omega)
  k_with "k_room" => ktr_room
  k_with "k_units" => ktr_units
  k_with "k_all" => (first | refine allBelow (by assumption) ?_ | refine allBelow (tb_ltOf (by assumption)) ?_); (try dsimp only); omega
  k_with "k_inst" => (refine' instE ?qqN ?qqh1 ?qqh2; (case qqN => k_asm); (case qqh1 => k_mem); (case qqh2 => k_mem))
  k_with "tb_start" => first | (refine' AtL.head ?qqa; (case qqa => k_all)) | (refine' AtL.tail ?qqa ?qqb; (case qqa => k_ne); (case qqb => (walk_at "tb_start")))
  k_with "tb_rel" => (repeat (first | assumption | apply List.Mem.tail))
  k_with "call builtin:str.format" => (k_here; (with_reducible show wpAny _ _ (call (Value.builtin "str.format") (Value.str _ _ :: _)) _ _ _); k_dflt (refine' fmt3_N ?qqk1 ?qqk2 ?qqk3 ?qqk4 ?qqk5 ?qqk6 ?qqk7 ?qqk8 ?_; (case qqk1 => k_asm); (case qqk2 => k_asm); (case qqk6 => assumption); (case qqk7 => assumption); (case qqk8 => assumption); (case qqk3 => (intro p hp; (walk_at "tb_rel"))); (case qqk4 => exact rfl); (case qqk5 => ktr_units); k_whole); intro h' u' tk' F' N'; (try k_sweep))
  k_with "setAttr ref" => (k_here; k_dflt (first
  | (refine' setE_args ?qqk1 ?qqk2 ?qqk3 ?qqk4 ?qqk5 ?qqk6 ?qqk7 ?qqk8 ?qqk9 ?qqk10 ?_; (case qqk1 => k_asm); (case qqk2 => k_asm); (case qqk3 => k_asm); (case qqk4 => k_inst); (case qqk5 => kernel_rfl); (case qqk6 => k_is); (case qqk7 => kernel_rfl); (case qqk8 => k_is); (case qqk9 => k_upd); (case qqk10 => k_mem); k_whole; intro h' F' N'; (try k_sweep))
  | (refine' setE_dict ?qqk1 ?qqk2 ?qqk3 ?qqk4 ?qqk5 ?qqk6 ?qqk7 ?qqk8 ?qqk9 ?qqk10 ?qqk11 ?qqk12 ?qqk13 ?_; (case qqk1 => k_asm); (case qqk2 => k_asm); (case qqk3 => k_asm); (case qqk4 => k_inst); (case qqk5 => exact rfl); (case qqk6 => k_is); (case qqk7 => kernel_rfl); (case qqk8 => k_is); (case qqk9 => kernel_rfl); (case qqk10 => k_get); (case qqk11 => k_put); (case qqk12 => k_upd); (case qqk13 => exact Nat.le_of_ble_eq_true rfl); k_whole; intro h' F' N'; (try k_sweep))
  | (refine' setE_first ?qqk1 ?qqk2 ?qqk3 ?qqk4 ?qqk5 ?qqk6 ?qqk7 ?qqk8 ?_; (case qqk1 => k_asm); (case qqk2 => k_asm); (case qqk3 => k_asm); (case qqk4 => (walk_at "tb_start")); (case qqk5 => k_is); (case qqk6 => kernel_rfl); (case qqk7 => k_is); (case qqk8 => kernel_rfl); k_whole; intro d' h' F' N' qql1; (try simp only [List.cons_append, List.nil_append] at N'); (try k_lt qql1); (try k_sweep))))
  trivial
theorem meta_exc : typeOf (.type "Exception") = pure (.type "type") := by kernel_rfl
theorem kw_T37_2 : True := by
  k_with "getMethod type:Exception" => (k_here; refine' method_type ?qqF ?qqX ?qqm (by decide +kernel) ?qqe ?qqh ?_; (case qqF => k_asm); (case qqX => k_asm); (case qqm => exact meta_exc); (case qqe => k_dflt k_is); (case qqh => k_handed))
  k_with "call builtin:Exception.__init__" => (k_here; k_dflt (refine' exInit_N ?qqk1 ?qqk2 ?qqk3 ?qqk4 ?qqk5 ?qqk6 ?qqk7 ?_; (case qqk1 => k_asm); (case qqk2 => k_asm); (case qqk3 => k_asm); (case qqk4 => k_inst); (case qqk5 => kernel_rfl); (case qqk6 => kernel_rfl); (case qqk7 => (walk_at "tb_start")); k_whole; intro d' h' F' N' qql1; (try simp only [List.cons_append, List.nil_append] at N'); (try k_lt qql1); (try k_sweep)))
  trivial
set_option maxRecDepth 100000
set_option maxHeartbeats 400000
noncomputable abbrev SN3 (w : World) := ShowsN Challenge.rw_dm0030_03.row.prog w
theorem tlAbove {news tl : List (Addr × Obj)} {d : Addr} (h : ∀ p ∈ news, p.1 < d) (ht : ∀ p ∈ tl, d ≤ p.1) : ∀ p ∈ tl, ∀ q ∈ news, q.1 < p.1 := fun p hp q hq => Nat.lt_of_lt_of_le (h q hq) (ht p hp)
inductive Ents (P : Params) : List (Str × Value) → List DictEntry → Prop
  | nil : Ents P [] []
  | cons {n v k l es} : Ents P l es → Ents P ((n, v) :: l) (⟨PyData.keyHash P n, .str n k, v⟩ :: es)
/-- an own exception with its fields, as the ledger bears it -/
noncomputable def ExcIs (P : Params) (C : Addr) (args : List Value) (fields : List (Str × Value)) (T : Str) (tl : List (Addr × Obj)) (r : Value) : Prop :=
  ∃ x d t u es, tl = [(t, tupObj args), (d, dictOf es (fields.length + 1)), (x, excObj C t (some d))] ∧ r = .ref x ∧ Ents P ((Str.ofString "message", .str T u) :: fields) es
theorem neN2 {a b : Nat} (h : a ≤ b) : a ≤ b := h
theorem exc_done {P : Params} {C : Addr} {args : List Value} {fields : List (Str × Value)} {T : Str} {u : Tok} {x t d b : Addr} {n : Nat} {es : List DictEntry} {h₀ h' : Heap} {L : Addr} {m : Str → Option Value} {news l : List (Addr × Obj)} {s : Shared} {tk' : Nat} {Q : Value → Shared → Prop}
    (F : Fr h₀ L h' m) (N : News h₀ L h' l) (hx : (x, excObj C t (some d)) ∈ l) (hd : (d, dictOf es n) ∈ l) (ht : (t, tupObj args) ∈ l) (hs : ∀ p ∈ news, p ∈ l) (l1 : ∀ p ∈ news, p.1 < b) (h1 : b ≤ x) (h2 : b ≤ d) (h3 : b ≤ t)
    (hn : n = fields.length + 1) (he : Ents P ((Str.ofString "message", .str T u) :: fields) es)
    (hret : ∀ r tl h' tk', Fr h₀ L h' m → News h₀ L h' (tl ++ news) → (∀ p ∈ tl, ∀ q ∈ news, q.1 < p.1) → ExcIs P C args fields T tl r → Q r { s with heap := h', toks := tk' }) : Q (.ref x) { s with heap := h', toks := tk' } := by
  subst hn
  refine hret _ [(t, tupObj args), (d, dictOf es (fields.length + 1)), (x, excObj C t (some d))] _ _ F (fun p hp => ?_) (tlAbove l1 ?_) ⟨_, _, _, _, _, rfl, rfl, he⟩
  · rcases List.mem_cons.mp hp with rfl | hp
    · exact N _ ht
    rcases List.mem_cons.mp hp with rfl | hp
    · exact N _ hd
    rcases List.mem_cons.mp hp with rfl | hp
    · exact N _ hx
    exact N p (hs p hp)
  · exact List.forall_mem_cons.mpr ⟨h3, List.forall_mem_cons.mpr ⟨h2, List.forall_mem_cons.mpr ⟨h1, List.forall_mem_nil _⟩⟩⟩
theorem mk78 {w : World} {v1 v2 v3 : Value} {t1 t2 t3 : Str} : C3 w 78 10 200 [v1, v2, v3] [] (fun news => SN3 w news v1 t1 ∧ SN3 w news v2 t2 ∧ SN3 w news v3 t3) (ExcIs w.params 78 [v1, v2, v3] [(Str.ofString "option", v1), (Str.ofString "section", v2)] (told3 t1 t2 t3)) := by
  unfold C3 Callee
  k_fill
  intro loose mean mg mb dp un cn cs a ccd cl outer A₀ base h₀ L m news s Q E B F X N T hk hrel hd hu hret
  obtain ⟨s1, s2, s3⟩ := hrel
  refine wpAny_call ?_
  k_dflt (refine' exc_K ?k1 ?k2 ?k3 ?k4 ?kz ?k5 ?k6 ?_; (case k1 => k_asm); (case k2 => k_asm); (case k3 => k_in); (case k4 => kernel_rfl); (case kz => (rw [sizeLine_eq]; simp)); (case k5 => k_is); (case k6 => k_is); k_whole; intro x' d' h' F' N' l1 l2; (try k_lt2 l2); (try k_sweep))
  k_dflt ktr_enter
  k_steps
  (rename Fr _ _ _ _ => lF); (rename News _ _ _ _ => lN)
  refine' exc_done lF lN ?hx ?hd ?ht ?hs l1 ?h1 ?h2 ?h3 rfl ?he hret
  case hx => k_mem
  case hd => k_mem
  case ht => k_mem
  case hs => (intro p hp; (walk_at "tb_rel"))
  case h1 => (refine neN2 ?_; omega)
  case h2 => (refine neN2 ?_; omega)
  case h3 => (refine neN2 ?_; omega)
  case he => exact .cons (.cons (.cons .nil))
theorem mk78k {w : World} {v1 v2 v3 : Value} {t1 t2 t3 : Str} : C3 w 78 10 200 [] [(Str.ofString "rawval", v3), (Str.ofString "section", v2), (Str.ofString "option", v1)] (fun news => SN3 w news v1 t1 ∧ SN3 w news v2 t2 ∧ SN3 w news v3 t3) (ExcIs w.params 78 [v1, v2, v3] [(Str.ofString "option", v1), (Str.ofString "section", v2)] (told3 t1 t2 t3)) := by
  unfold C3 Callee
  k_fill
  intro loose mean mg mb dp un cn cs a ccd cl outer A₀ base h₀ L m news s Q E B F X N T hk hrel hd hu hret
  obtain ⟨s1, s2, s3⟩ := hrel
  refine wpAny_call ?_
  k_dflt (refine' exc_K ?k1 ?k2 ?k3 ?k4 ?kz ?k5 ?k6 ?_; (case k1 => k_asm); (case k2 => k_asm); (case k3 => k_in); (case k4 => kernel_rfl); (case kz => (rw [sizeLine_eq]; simp)); (case k5 => k_is); (case k6 => k_is); k_whole; intro x' d' h' F' N' l1 l2; (try k_lt2 l2); (try k_sweep))
  k_dflt ktr_enter
  k_steps
  (rename Fr _ _ _ _ => lF); (rename News _ _ _ _ => lN)
  refine' exc_done lF lN ?hx ?hd ?ht ?hs l1 ?h1 ?h2 ?h3 rfl ?he hret
  case hx => k_mem
  case hd => k_mem
  case ht => k_mem
  case hs => (intro p hp; (walk_at "tb_rel"))
  case h1 => (refine neN2 ?_; omega)
  case h2 => (refine neN2 ?_; omega)
  case h3 => (refine neN2 ?_; omega)
  case he => exact .cons (.cons (.cons .nil))
end Mine
end
section

open PySem PySem.W PyProof.Rows PySem.Calls PySem.Spec
namespace Mine
theorem units_make39 {A : Around} {C : Addr} {rest : List Value} {kw : List (Str × Value)} : (A.under (.builtin "type.__call__" ⟨.ref C :: rest, kw⟩)).units = A.units + 1 := rfl
theorem kw_T39 : True := by
  k_with_none
  trivial
theorem kw_T39_3 : True := by
  k_with "ktr_room" => (simp only [depth_under_make, depth_under_kw, depth_in1, depth_deeper, depth_caller, ktrTop]; omega)
  k_with "ktr_units" => (simp only [units_make39, units_in1, units_deeper, Around.mark_units, units_caller, ktrTop]; omega)
  k_with "k_room" => ktr_room
  k_with "k_units" => ktr_units
  k_with "k_all" => (first | refine allBelow (by assumption) ?_ | refine allBelow (tb_ltOf (by assumption)) ?_); (try dsimp only); omega
  k_with "k_inst" => (refine' instE ?qqN ?qqh1 ?qqh2; (case qqN => k_asm); (case qqh1 => (walk_at "tb_rel")); (case qqh2 => (walk_at "tb_rel")))
  k_with "tb_start" => first | (refine' AtL.head ?qqa; (case qqa => k_all)) | (refine' AtL.tail ?qqa ?qqb; (case qqa => k_ne); (case qqb => (walk_at "tb_start")))
  k_with "tb_rel" => (repeat (first | assumption | apply List.Mem.tail))
  k_with "call builtin:str.format" => (k_here; (with_reducible show wpAny _ _ (call (Value.builtin "str.format") (Value.str _ _ :: _)) _ _ _); k_dflt (refine' fmt3_N ?qqk1 ?qqk2 ?qqk3 ?qqk4 ?qqk5 ?qqk6 ?qqk7 ?qqk8 ?_; (case qqk1 => k_asm); (case qqk2 => k_asm); (case qqk6 => assumption); (case qqk7 => assumption); (case qqk8 => assumption); (case qqk3 => (intro p hp; (walk_at "tb_rel"))); (case qqk4 => exact rfl); (case qqk5 => ktr_units); k_whole); intro h' u' tk' F' N'; (try k_sweep))
  k_with "setAttr ref" => (k_here; k_dflt (first
  | (refine' setE_args ?qqk1 ?qqk2 ?qqk3 ?qqk4 ?qqk5 ?qqk6 ?qqk7 ?qqk8 ?qqk9 ?qqk10 ?_; (case qqk1 => k_asm); (case qqk2 => k_asm); (case qqk3 => k_asm); (case qqk4 => k_inst); (case qqk5 => kernel_rfl); (case qqk6 => k_is); (case qqk7 => kernel_rfl); (case qqk8 => k_is); (case qqk9 => k_upd); (case qqk10 => k_mem); k_whole; intro h' F' N'; (try k_sweep))
  | (refine' setE_dict ?qqk1 ?qqk2 ?qqk3 ?qqk4 ?qqk5 ?qqk6 ?qqk7 ?qqk8 ?qqk9 ?qqk10 ?qqk11 ?qqk12 ?qqk13 ?_; (case qqk1 => k_asm); (case qqk2 => k_asm); (case qqk3 => k_asm); (case qqk4 => k_inst); (case qqk5 => exact rfl); (case qqk6 => k_is); (case qqk7 => kernel_rfl); (case qqk8 => k_is); (case qqk9 => kernel_rfl); (case qqk10 => k_get); (case qqk11 => k_put); (case qqk12 => k_upd); (case qqk13 => exact Nat.le_of_ble_eq_true rfl); k_whole; intro h' F' N'; (try k_sweep))
  | (refine' setE_first ?qqk1 ?qqk2 ?qqk3 ?qqk4 ?qqk5 ?qqk6 ?qqk7 ?qqk8 ?_; (case qqk1 => k_asm); (case qqk2 => k_asm); (case qqk3 => k_asm); (case qqk4 => (walk_at "tb_start")); (case qqk5 => k_is); (case qqk6 => kernel_rfl); (case qqk7 => k_is); (case qqk8 => kernel_rfl); k_whole; intro d' h' F' N' qql1; (try simp only [List.cons_append, List.nil_append] at N'); (try k_lt qql1); (try k_sweep))))
  k_with "getMethod type:Exception" => (k_here; refine' method_type ?qqF ?qqX ?qqm (by decide +kernel) ?qqe ?qqh ?_; (case qqF => k_asm); (case qqX => k_asm); (case qqm => exact meta_exc); (case qqe => k_dflt k_is); (case qqh => k_handed))
  k_with "call builtin:Exception.__init__" => (k_here; k_dflt (refine' exInit_N ?qqk1 ?qqk2 ?qqk3 ?qqk4 ?qqk5 ?qqk6 ?qqk7 ?_; (case qqk1 => k_asm); (case qqk2 => k_asm); (case qqk3 => k_asm); (case qqk4 => k_inst); (case qqk5 => kernel_rfl); (case qqk6 => kernel_rfl); (case qqk7 => (walk_at "tb_start")); k_whole; intro d' h' F' N' qql1; (try simp only [List.cons_append, List.nil_append] at N'); (try k_lt qql1); (try k_sweep)))
  trivial
set_option maxRecDepth 100000
set_option maxHeartbeats 400000
theorem kw_T39_4 : True := by
  k_with "getAttr ref" => (k_here; k_dflt (refine' getE_own ?qqF ?qqX ?qqI ?qqhg ?qqhh ?qqha ?qqhn ?qqhl ?qqhv ?_; (case qqF => k_asm); (case qqX => k_asm); (case qqI => k_inst); (case qqhg => kernel_rfl); (case qqhh => kernel_rfl); (case qqha => k_is); (case qqhn => kernel_rfl); (case qqhl => k_get); (case qqhv => exact rfl); k_whole))
  trivial
theorem tell78 {w : World} {x t d : Addr} {v1 v2 : Value} {T : Str} {u k0 k1 k2 : Tok} : C3 w 36 3 20 [.ref x] [] (fun news => (x, excObj 78 t (some d)) ∈ news ∧ (d, dictOf [⟨PyData.keyHash w.params (Str.ofString "message"), .str (Str.ofString "message") k0, .str T u⟩, ⟨PyData.keyHash w.params (Str.ofString "option"), .str (Str.ofString "option") k1, v1⟩, ⟨PyData.keyHash w.params (Str.ofString "section"), .str (Str.ofString "section") k2, v2⟩] 3) ∈ news) (fun tl r => tl = [] ∧ r = .str T u) := by
  unfold C3 Callee
  k_fill
  intro loose mean mg mb dp un cn cs a ccd cl outer A₀ base h₀ L m news s Q E B F X N T hk hrel hd hu hret
  obtain ⟨m1, m2⟩ := hrel
  refine wpAny_call ?_
  k_dflt ktr_enter
  k_steps
  exact hret _ [] _ _ (by k_asm) (by k_asm) (fun _ h => nomatch h) ⟨rfl, rfl⟩
theorem ents3 {P : Params} {n1 n2 n3 : Str} {v1 v2 v3 : Value} {es : List DictEntry} (h : Ents P [(n1, v1), (n2, v2), (n3, v3)] es) : ∃ k1 k2 k3, es = [⟨PyData.keyHash P n1, .str n1 k1, v1⟩, ⟨PyData.keyHash P n2, .str n2 k2, v2⟩, ⟨PyData.keyHash P n3, .str n3 k3, v3⟩] := by
  cases h with | cons h => cases h with | cons h => cases h with | cons h => cases h; exact ⟨_, _, _, rfl⟩
theorem callee_exc {prog : Program} {K : Params → Frag} {p : Program} {w : World} {f : Addr} {D U : Nat} {args : List Value} {kw : List (PySem.Str × Value)} {rel : List (Addr × Obj) → Prop} {Cx : Addr} {vs : List Value} {n2 n3 T0 : Str} {v2 v3 : Value}
    (C : Callee prog K p w f D U args kw rel (ExcIs w.params Cx vs [(n2, v2), (n3, v3)] T0))
    {loose : List PySem.Str} {mean : ExcName → Option Value} {mg mb : PySem.Str → Option Value} {dp un : Nat} {cn : PySem.Str} {cs : Scope} {a : Addr} {ccd : Value} {cl : List (PySem.Str × Addr)} {outer : List Env} {A₀ : Around} {base h₀ : Heap} {L : Addr} {m : PySem.Str → Option Value} {news : List (Addr × Obj)} {s : Shared}
    {Q E : Value → Shared → Prop}
    (B : Below A₀ base outer h₀) (F : Fr h₀ L s.heap m) (X : (K w.params).In h₀) (N : News h₀ L s.heap news) (T : Top p loose mean mg mb h₀) (hk : cs.kind = .function) (hr : rel news) (hd : dp + D < recursionLimit) (hu : un + U < cLine)
    (ret : ∀ x d t u k1 k2 k3 h' tk', Fr h₀ L h' m → News h₀ L h' ((t, tupObj vs) :: (d, dictOf [⟨PyData.keyHash w.params (Str.ofString "message"), .str (Str.ofString "message") k1, .str T0 u⟩, ⟨PyData.keyHash w.params n2, .str n2 k2, v2⟩, ⟨PyData.keyHash w.params n3, .str n3 k3, v3⟩] 3) :: (x, excObj Cx t (some d)) :: news) → Q (.ref x) { s with heap := h', toks := tk' }) :
    wpAny (model prog w) (ktrTop dp un (some []) cn cs L a ccd cl outer) (call (.ref f) args kw) Q E s :=
  callee_use C B F X N T hk hr hd hu (fun r tl h' tk' F' N' up o => by obtain ⟨x, d, t, u, es, rfl, rfl, e3⟩ := o; obtain ⟨k1, k2, k3, rfl⟩ := ents3 e3; exact ret x d t u k1 k2 k3 h' tk' F' N')
end Mine
end
section

open PySem PySem.W PyProof.Rows PySem.Calls PySem.Spec
namespace Mine
theorem kw_S1 : True := by
  k_with_none
  trivial
theorem kw_S1_5 : True := by
  k_with "ktr_room" => (simp only [depth_under_make, depth_under_kw, depth_in1, depth_deeper, depth_caller, ktrTop]; omega)
  k_with "ktr_units" => (simp only [units_in1, units_deeper, Around.mark_units, units_caller, ktrTop]; omega)
  k_with "k_room" => ktr_room
  k_with "k_units" => ktr_units
  k_with "tb_rel" => (repeat (first | assumption | apply List.Mem.tail))
  k_with "k_all" => (first | refine allBelow (by assumption) ?_ | refine allBelow (tb_ltOf (by assumption)) ?_); (try dsimp only); omega
  k_with "k_mem" => first | exact List.Mem.head _ | assumption | (refine' List.Mem.tail _ ?_; k_mem)
  trivial
set_option maxRecDepth 100000
set_option maxHeartbeats 1000000
theorem kw_S1_6 : True := by
  k_with "m_enterC" => (refine' code_defC ?qqk1 ?qqk2 ?qqk3 ?qqk4 ?qqk5 ?qqkA ?qqkF ?qqkK ?qqk6 ?qqk7 ?qqk8 ?qqk9 ?qqkB ?qqkD ?_ ?qqc2 ?qqc3 ?qqc4; (case qqkA => exact rfl); (case qqkF => exact rfl); (case qqkK => assumption); (case qqk1 => k_asm); (case qqk2 => k_asm); (case qqk3 => k_asm); (case qqk4 => k_asm); (case qqk5 => k_asm); (case qqk6 => k_is); (case qqk7 => k_is); (case qqk8 => ktr_room); (case qqk9 => exact BindsTo.of_eq rfl); (case qqkB => exact rfl); (case qqkD => decide +kernel); (case qqc2 => exact rfl); (case qqc3 => exact rfl); (case qqc4 => exact rfl); k_whole; intro g' L' h' tk' cells' FG' F' N' Y' B' X' T' qql1; k_cells Y'; (try simp only [List.cons_append, List.nil_append] at N'); (try dsimp only); (try k_fold))
  k_with "exec For" => (k_here; refine wpAny_For ?_ (fun _ => rfl))
  k_with "exec For Tuple List cons nil" => (k_here; refine wpAny_For ?_ (fun _ => rfl))
  k_with "spliced" => (k_here; first | refine args_cons ?_ | (refine args_nil ?_; try dsimp only [List.cons_append, List.nil_append]))
  k_with "CompSrcT" => (k_here; k_dflt (refine LCt.CompSrcT.range (by rfl) (by k_asm) (by k_asm) (by assumption) (small_step1 (by omega)) (size_step1 _) (by rw [sizeLine_eq]; omega) ?_; intro g'; (refine' restT (fun i' t' I' oI' C' oC' D' m' h' tk' E' hi' hC' hx' F' N' off' ne' => ?_) ?_); (try ((with_reducible rename PairAt _ _ _ _ => hp'); (obtain ⟨dd', va', vb', hdd', hva', hvb', hba', hbb'⟩ := hp' _ hi')))))
  k_with "call builtin:len" => (k_here; (with_reducible show wpAny _ _ (call (Value.builtin "len") [Value.ref _]) _ _ _); k_dflt (first
  | (refine' lenL ?qqN ?qqm ?qqe ?qqz ?_; (case qqN => k_asm); (case qqm => k_mem); (case qqe => exact BdAll.length (by assumption)); (case qqz => omega); k_whole)
  | (refine' lenT ?qqN ?qqm ?qqe ?qqz ?_; (case qqN => k_asm); (case qqm => k_mem); (case qqe => exact BdAll.length (by assumption)); (case qqz => omega); k_whole)))
  k_with "subscriptTail" => (k_here; (with_reducible show wpAny _ _ (subscriptTail _ _ (Value.ref _) (Value.int _ _)) _ _ _); k_dflt (first
  | (refine' itemL ?qqN ?qqm ?qqz ?qqe ?_ ?qqa ?qqb; (case qqN => k_asm); (case qqm => k_mem); (case qqe => assumption); (case qqz => omega); (case qqa => with_unfolding_all rfl); (case qqb => (intro _; with_unfolding_all rfl)); k_whole)
  | (refine' itemT ?qqN ?qqm ?qqz ?qqe ?_ ?qqa; (case qqN => k_asm); (case qqm => k_mem); (case qqe => assumption); (case qqz => omega); (case qqa => with_unfolding_all rfl); k_whole)))
  k_with "call ref" => (k_here; k_dflt ((with_reducible show wpAny _ _ (call (Value.ref 120) _ _) _ _ _); (with_reducible rename SameAll _ _ _ _ => ih'); refine' callee_val (ih' _ _ ?qqhdd _ _) ?qqB ?qqF ?qqX ?qqN ?qqT ?qqhk ?qqhr ?qqhd ?qqhu ?_; (case qqhdd => assumption); (case qqB => k_asm); (case qqF => k_asm); (case qqX => k_asm); (case qqN => k_asm); (case qqhr => (refine' And.intro (Bd.mono ?qqs1 ?qqb1) (Bd.mono ?qqs2 ?qqb2); (case qqb1 => assumption); (case qqb2 => assumption); (case qqs1 => (intro p hp; (walk_at "tb_rel"))); (case qqs2 => (intro p hp; (walk_at "tb_rel"))))); (case qqT => k_asm); (case qqhk => exact rfl); (case qqhd => ktr_room); (case qqhu => ktr_units); k_whole; intro h' tk' F' N'; (try k_sweep)))
  trivial
theorem same_none {w : World}  : C3 w 120 10 100 [.none, .none] [] (fun _ => True) (fun tl r => tl = [] ∧ r = .bool true) := by
  unfold C3 Callee
  k_fill
  intro loose mean mg mb dp un cn cs a ccd cl outer A₀ base h₀ L m news s Q E B F X N T hk hrel hd hu hret
  refine wpAny_call ?_
  k_dflt (walk_at "m_enterC")
  k_steps
  (rename News _ _ _ _ => lN)
  exact hret _ [] _ _ (by k_asm) (fun p hp => lN p (by (walk_at "tb_rel"))) (fun _ h => nomatch h) ⟨rfl, by simp⟩
theorem same_bool {w : World} {b : Bool} : C3 w 120 10 100 [.bool b, .bool b] [] (fun _ => True) (fun tl r => tl = [] ∧ r = .bool true) := by
  unfold C3 Callee
  k_fill
  intro loose mean mg mb dp un cn cs a ccd cl outer A₀ base h₀ L m news s Q E B F X N T hk hrel hd hu hret
  refine wpAny_call ?_
  k_dflt (walk_at "m_enterC")
  k_steps
  (rename News _ _ _ _ => lN)
  exact hret _ [] _ _ (by k_asm) (fun p hp => lN p (by (walk_at "tb_rel"))) (fun _ h => nomatch h) ⟨rfl, by simp⟩
theorem same_int {w : World} {n : Int} {k k2 : Tok} : C3 w 120 10 100 [.int n k, .int n k2] [] (fun _ => True) (fun tl r => tl = [] ∧ r = .bool true) := by
  unfold C3 Callee
  k_fill
  intro loose mean mg mb dp un cn cs a ccd cl outer A₀ base h₀ L m news s Q E B F X N T hk hrel hd hu hret
  refine wpAny_call ?_
  k_dflt (walk_at "m_enterC")
  k_steps
  (rename News _ _ _ _ => lN)
  exact hret _ [] _ _ (by k_asm) (fun p hp => lN p (by (walk_at "tb_rel"))) (fun _ h => nomatch h) ⟨rfl, by simp⟩
theorem same_str {w : World} {x : Str} {k k2 : Tok} : C3 w 120 10 100 [.str x k, .str x k2] [] (fun _ => True) (fun tl r => tl = [] ∧ r = .bool true) := by
  unfold C3 Callee
  k_fill
  intro loose mean mg mb dp un cn cs a ccd cl outer A₀ base h₀ L m news s Q E B F X N T hk hrel hd hu hret
  refine wpAny_call ?_
  k_dflt (walk_at "m_enterC")
  k_steps
  (rename News _ _ _ _ => lN)
  exact hret _ [] _ _ (by k_asm) (fun p hp => lN p (by (walk_at "tb_rel"))) (fun _ h => nomatch h) ⟨rfl, by simp⟩
theorem same_list {w : World} {ds : List PyData} {D U : Nat} (IH : SameAll w ds D U) (hU : 100 ≤ U) {a1 a2 : Addr} {vs1 vs2 : List Value} {n1 n2 : Nat} :
   C3 w 120 (D + 3) (U + 10) [.ref a1, .ref a2] [] (fun news => (a1, W.listOf vs1.toArray n1) ∈ news ∧ (a2, W.listOf vs2.toArray n2) ∈ news ∧ BdAll news ds vs1 ∧ BdAll news ds vs2 ∧ ds.length ≤ 1000) (fun tl r => tl = [] ∧ r = .bool true) := by
  unfold C3 Callee
  k_fill
  intro loose mean mg mb dp un cn cs a ccd cl outer A₀ base h₀ L m news s Q E B F X N T hk hrel hd hu hret
  obtain ⟨m1, m2, b1, b2, hl⟩ := hrel
  have hp := pairAt b1 b2
  refine wpAny_call ?_
  k_dflt (walk_at "m_enterC")
  k_steps
  · exact absurd rfl (by assumption)
  · exact ⟨rfl, _, _, rfl, by k_asm, by k_asm⟩
  · (rename News _ _ _ _ => lN)
    exact hret _ [] _ _ (by k_asm) (fun p hp => lN p (by (walk_at "tb_rel"))) (fun _ h => nomatch h) ⟨rfl, rfl⟩
theorem same_tuple {w : World} {ds : List PyData} {D U : Nat} (IH : SameAll w ds D U) (hU : 100 ≤ U) {a1 a2 : Addr} {vs1 vs2 : List Value} {n1 n2 : Nat} :
   C3 w 120 (D + 3) (U + 10) [.ref a1, .ref a2] [] (fun news => (a1, ({ cls := .type "tuple", data := .seq vs1.toArray n1 } : Obj)) ∈ news ∧ (a2, ({ cls := .type "tuple", data := .seq vs2.toArray n2 } : Obj)) ∈ news ∧ BdAll news ds vs1 ∧ BdAll news ds vs2 ∧ ds.length ≤ 1000) (fun tl r => tl = [] ∧ r = .bool true) := by
  unfold C3 Callee
  k_fill
  intro loose mean mg mb dp un cn cs a ccd cl outer A₀ base h₀ L m news s Q E B F X N T hk hrel hd hu hret
  obtain ⟨m1, m2, b1, b2, hl⟩ := hrel
  have hp := pairAt b1 b2
  refine wpAny_call ?_
  k_dflt (walk_at "m_enterC")
  k_steps
  · exact absurd rfl (by assumption)
  · exact ⟨rfl, _, _, rfl, by k_asm, by k_asm⟩
  · (rename News _ _ _ _ => lN)
    exact hret _ [] _ _ (by k_asm) (fun p hp => lN p (by (walk_at "tb_rel"))) (fun _ h => nomatch h) ⟨rfl, rfl⟩
/-- the comparer says True of two values that bear the same datum -/
theorem callee_weaken {prog : Program} {K : Params → Frag} {p : Program} {w : World} {f : Addr} {D U D' U' : Nat} {args : List Value} {kw : List (PySem.Str × Value)} {rel rel' : List (Addr × Obj) → Prop} {out : List (Addr × Obj) → Value → Prop}
    (C : Callee prog K p w f D U args kw rel out) (hD : D ≤ D') (hU : U ≤ U') (hr : ∀ news, rel' news → rel news) : Callee prog K p w f D' U' args kw rel' out := by
  intro loose mean mg mb dp un cn cs a ccd cl outer A₀ base h₀ L m news s Q E B F X N T hk hrel hd hu hret
  exact C _ _ _ _ _ _ _ _ _ _ _ _ _ _ _ _ _ _ _ _ _ B F X N T hk (hr _ hrel) (by omega) (by omega) hret
/-- every sequence within the datum is short -/
noncomputable def Short : Nat → PyData → Prop
  | 0, d => d.depth = 0
  | n + 1, d => ∀ ds, (d = .list ds ∨ d = .tuple ds) → ds.length ≤ 1000 ∧ ∀ e ∈ ds, Short n e
theorem same_spec {w : World} : ∀ (n : Nat) (d : PyData), OkD d → d.depth ≤ n → Short n d → ∀ v1 v2, C3 w 120 (3 * n + 10) (10 * n + 100) [v1, v2] [] (fun news => Bd news d v1 ∧ Bd news d v2) (fun tl r => tl = [] ∧ r = .bool true) := by
  intro n
  induction n with
  | zero =>
    intro d ok hdep hs v1 v2
    have key : ∀ news, (Bd news d v1 ∧ Bd news d v2) → C3 w 120 10 100 [v1, v2] [] (fun _ => True) (fun tl r => tl = [] ∧ r = .bool true) := by
      rintro news ⟨h1, h2⟩
      cases d with
      | none => simp only [Bd] at h1 h2; subst h1; subst h2; exact same_none
      | bool b => simp only [Bd] at h1 h2; subst h1; subst h2; exact same_bool
      | int i => simp only [Bd] at h1 h2; obtain ⟨k1, rfl⟩ := h1; obtain ⟨k2, rfl⟩ := h2; exact same_int
      | str x => simp only [Bd] at h1 h2; obtain ⟨k1, rfl⟩ := h1; obtain ⟨k2, rfl⟩ := h2; exact same_str
      | list ds => simp only [PyData.depth] at hdep; omega
      | tuple ds => simp only [PyData.depth] at hdep; omega
      | dict _ => simp only [OkD] at ok
    intro loose mean mg mb dp un cn cs a ccd cl outer A₀ base h₀ L m news s Q E B F X N T hk hrel hd hu hret
    exact key news hrel _ _ _ _ _ _ _ _ _ _ _ _ _ _ _ _ _ _ _ _ _ B F X N T hk trivial (by omega) (by omega) hret
  | succ n ih =>
    intro d ok hdep hs v1 v2
    intro loose mean mg mb dp un cn cs a ccd cl outer A₀ base h₀ L m news s Q E B F X N T hk hrel hd hu hret
    obtain ⟨h1, h2⟩ := hrel
    have all : ∀ ds, OkAll ds → PyData.depthAll ds ≤ n → (∀ e ∈ ds, Short n e) → SameAll w ds (3 * n + 10) (10 * n + 100) := by
      intro ds oka hda hsa i e hi u1 u2
      exact ih e (OkAll.get oka hi) (Nat.le_trans (depth_get hi) hda) (hsa e (List.mem_of_getElem? hi)) u1 u2
    cases d with
    | none => simp only [Bd] at h1 h2; subst h1; subst h2; exact same_none _ _ _ _ _ _ _ _ _ _ _ _ _ _ _ _ _ _ _ _ _ B F X N T hk trivial (by omega) (by omega) hret
    | bool b => simp only [Bd] at h1 h2; subst h1; subst h2; exact same_bool _ _ _ _ _ _ _ _ _ _ _ _ _ _ _ _ _ _ _ _ _ B F X N T hk trivial (by omega) (by omega) hret
    | int i => simp only [Bd] at h1 h2; obtain ⟨k1, rfl⟩ := h1; obtain ⟨k2, rfl⟩ := h2; exact same_int _ _ _ _ _ _ _ _ _ _ _ _ _ _ _ _ _ _ _ _ _ B F X N T hk trivial (by omega) (by omega) hret
    | str x => simp only [Bd] at h1 h2; obtain ⟨k1, rfl⟩ := h1; obtain ⟨k2, rfl⟩ := h2; exact same_str _ _ _ _ _ _ _ _ _ _ _ _ _ _ _ _ _ _ _ _ _ B F X N T hk trivial (by omega) (by omega) hret
    | list ds =>
      simp only [OkD] at ok
      simp only [PyData.depth] at hdep
      obtain ⟨hl, hsa⟩ := hs ds (.inl rfl)
      simp only [Bd] at h1 h2
      obtain ⟨a1, vs1, n1, rfl, m1, b1⟩ := h1
      obtain ⟨a2, vs2, n2, rfl, m2, b2⟩ := h2
      exact same_list (all ds ok (by omega) hsa) (by omega) _ _ _ _ _ _ _ _ _ _ _ _ _ _ _ _ _ _ _ _ _ B F X N T hk ⟨m1, m2, b1, b2, hl⟩ (by omega) (by omega) hret
    | tuple ds =>
      simp only [OkD] at ok
      simp only [PyData.depth] at hdep
      obtain ⟨hl, hsa⟩ := hs ds (.inr rfl)
      simp only [Bd] at h1 h2
      obtain ⟨a1, vs1, n1, rfl, m1, b1⟩ := h1
      obtain ⟨a2, vs2, n2, rfl, m2, b2⟩ := h2
      exact same_tuple (all ds ok (by omega) hsa) (by omega) _ _ _ _ _ _ _ _ _ _ _ _ _ _ _ _ _ _ _ _ _ B F X N T hk ⟨m1, m2, b1, b2, hl⟩ (by omega) (by omega) hret
    | dict _ => simp only [OkD] at ok
end Mine
end
section

open PySem PySem.W PyProof.Rows PySem.Calls PySem.Spec
namespace Mine
theorem kw_S2 : True := by
  k_with_none
  trivial
theorem kw_S2_7 : True := by
  k_with "ktr_room" => (simp only [depth_under_make, depth_under_kw, depth_in1, depth_deeper, depth_caller, ktrTop]; omega)
  k_with "ktr_units" => (simp only [units_in1, units_deeper, Around.mark_units, units_caller, ktrTop]; omega)
  k_with "k_room" => ktr_room
  k_with "k_units" => ktr_units
  k_with "tb_rel" => (repeat (first | assumption | apply List.Mem.tail))
  k_with "k_all" => (first | refine allBelow (by assumption) ?_ | refine allBelow (tb_ltOf (by assumption)) ?_); (try dsimp only); omega
  k_with "k_mem" => first | exact List.Mem.head _ | assumption | (refine' List.Mem.tail _ ?_; k_mem)
  trivial
set_option maxRecDepth 100000
set_option maxHeartbeats 1000000

theorem kw_S2_8 : True := by
  k_with "m_enterC" => (refine' code_defC ?qqk1 ?qqk2 ?qqk3 ?qqk4 ?qqk5 ?qqkA ?qqkF ?qqkK ?qqk6 ?qqk7 ?qqk8 ?qqk9 ?qqkB ?qqkD ?_ ?qqc2 ?qqc3 ?qqc4; (case qqkA => exact rfl); (case qqkF => exact rfl); (case qqkK => assumption); (case qqk1 => k_asm); (case qqk2 => k_asm); (case qqk3 => k_asm); (case qqk4 => k_asm); (case qqk5 => k_asm); (case qqk6 => k_is); (case qqk7 => k_is); (case qqk8 => ktr_room); (case qqk9 => exact BindsTo.of_eq rfl); (case qqkB => exact rfl); (case qqkD => decide +kernel); (case qqc2 => exact rfl); (case qqc3 => exact rfl); (case qqc4 => exact rfl); k_whole; intro g' L' h' tk' cells' FG' F' N' Y' B' X' T' qql1; k_cells Y'; (try simp only [List.cons_append, List.nil_append] at N'); (try dsimp only); (try k_fold))
  k_with "exec For" => (k_here; refine wpAny_For ?_ (fun _ => rfl))
  k_with "exec For Tuple List cons nil" => (k_here; refine wpAny_For ?_ (fun _ => rfl))
  k_with "spliced" => (k_here; first | refine args_cons ?_ | (refine args_nil ?_; try dsimp only [List.cons_append, List.nil_append]))
  k_with "m_lit" => first | exact lt_None | exact lt_True | exact lt_False | exact lt_q | exact lt_d | exact lt_po | exact lt_pc | exact lt_bo | exact lt_bc | exact lt_cs | exact lt_cp | exact lt_mi | exact lt_ze | exact lt_nl | exact lt_bs | exact lt_n | exact lt_one _
  k_with "m_yes" => (refine' sl_yes ?qqha ?qqhk ?qqhl ?qqhe; (case qqhl => walk_at "m_lit"); (case qqha => assumption); (case qqhk => decide); (case qqhe => rfl))
  k_with "m_no" => first
  | (refine' sl_no ?qqha ?qqhk ?qqhl ?qqhc; (case qqhl => walk_at "m_lit"); (case qqha => assumption); (case qqhk => decide); (case qqhc => first | assumption | omega))
  | (refine' sl_no2 ?qqha ?qqhk ?qqhl ?qqhc; (case qqhl => walk_at "m_lit"); (case qqha => assumption); (case qqhk => decide); (case qqhc => first | assumption | omega))
  | (refine' sl_end ?qqha ?qqhk ?qqhl; (case qqhl => walk_at "m_lit"); (case qqha => assumption); (case qqhk => decide))
  k_with "compareOp Eq str str" => (k_here; (with_reducible show wpAny _ _ (compareOp _ (Value.str (Txt.slice _ _ _) _) _) _ _ _); k_dflt (first | (refine' eq_is (b := true) ?qqe ?_; (case qqe => walk_at "m_yes")) | (refine' eq_is (b := false) ?qqe ?_; (case qqe => walk_at "m_no"))))
  k_with "compareOp NotEq str str" => (k_here; (with_reducible show wpAny _ _ (compareOp _ (Value.str (Txt.slice _ _ _) _) _) _ _ _); k_dflt (first | (refine' ne_is (b := true) ?qqe ?_; (case qqe => walk_at "m_yes")) | (refine' ne_is (b := false) ?qqe ?_; (case qqe => walk_at "m_no"))))
  k_with "m_turn2" => (refine' list2_turn ?qqF ?qqN ?qqhI ?qqh1 ?qqh2 ?qqhm ?qqhg; (case qqF => k_asm); (case qqN => k_asm); (case qqhI => assumption); (case qqh1 => k_mem); (case qqh2 => (intro p hp; (walk_at "tb_rel"))); (case qqhm => (intro z h1 h2; simp only [if_neg h1, if_neg h2])); (case qqhg => decide))
  k_with "m_lt" => first | assumption | exact tb_ltOf (by assumption) | exact tb_ltOf (And.right (by assumption)) | exact tb_ltOf (And.right (And.right (by assumption))) | exact tb_ltOf (And.right (And.right (And.right (by assumption)))) | exact tb_ltOf (And.right (And.right (And.right (And.right (by assumption))))) | exact tb_ltOf (And.right (And.right (And.right (And.right (And.right (by assumption)))))) | exact tb_ltOf (And.right (And.right (And.right (And.right (And.right (And.right (by assumption))))))) | exact tb_ltOf (And.right (And.right (And.right (And.right (And.right (And.right (And.right (by assumption)))))))) | exact tb_ltOf (And.right (And.right (And.right (And.right (And.right (And.right (And.right (And.right (by assumption)))))))))
  k_with "m_ret1" => ((rename Fr _ _ _ _ => lF'); (rename News _ _ _ _ => lN'); (refine' rd_ret1 ?qqhret lF' lN' ?qqhm ?qqhs ?qqab ?_; (case qqhret => assumption); (case qqhm => k_mem); (case qqhs => (intro p hp; (walk_at "tb_rel"))); (case qqab => walk_at "m_lt")))
  k_with "subscriptTail Name Name str int" => (k_here; (with_reducible show wpAny _ _ (subscriptTail _ _ (Value.str _ _) (Value.int _ _)) _ _ _); k_dflt (refine' item_at ?qqha ?qqhw ?_ ?qqhs ?qqht; (case qqha => assumption); (case qqhw => assumption); (case qqhs => with_unfolding_all rfl); (case qqht => (intro _; with_unfolding_all rfl)); k_whole))
  k_with "exec While BoolOp cons nil" => (k_here; refine held_off ?_)
  k_with "exec While Compare cons nil" => (k_here; refine held_off ?_)
  k_with "m_ne" => first | assumption | omega
  k_with "m_ch1" => (refine' ch_yes ?qqhl ?qqhc; (case qqhl => walk_at "m_lit"); (case qqhc => first | rfl | omega))
  k_with "m_ch0" => (refine' ch_no ?qqhl ?qqhc; (case qqhl => walk_at "m_lit"); (case qqhc => walk_at "m_ne"))
  k_with "compareOp Eq str str" => (k_here; (with_reducible show wpAny _ _ (compareOp _ (Value.str (Str.mk #[_]) _) _) _ _ _); k_dflt (first | (refine' eq_is (b := true) ?qqe ?_; (case qqe => walk_at "m_ch1")) | (refine' eq_is (b := false) ?qqe ?_; (case qqe => walk_at "m_ch0"))))
  k_with "compareOp NotEq str str" => (k_here; (with_reducible show wpAny _ _ (compareOp _ (Value.str (Str.mk #[_]) _) _) _ _ _); k_dflt (first | (refine' ne_is (b := true) ?qqe ?_; (case qqe => walk_at "m_ch1")) | (refine' ne_is (b := false) ?qqe ?_; (case qqe => walk_at "m_ch0"))))
  k_with "compareOp NotIn str ref" => (k_here; k_dflt (refine' notinL ?qqN ?qqm ?qqi ?qqv ?_; (case qqN => k_asm); (case qqm => k_mem); (case qqi => exact .cons _ _ (.cons _ _ (.cons _ _ .nil))); (case qqv => exact nb_any (by assumption) (by omega)); k_whole))
  k_with "ktr_rel" => (rw [sizeLine_eq]; (try simp only [PySem.Str.length_append, len1c, len_nl]); omega)
  k_with "inplaceOp Add str str" => (k_here; (refine PyProof.Rows.iadd_str (hsz := ?qqhsz) ?_); (case qqhsz => (walk_at "ktr_rel")); intro _ _)
  k_with "KswPost" => (refine held_off ?_)
  k_with "call builtin:len" => (k_here; (with_reducible show wpAny _ _ (call (Value.builtin "len") [Value.str _ _]) _ _ _); (fail_if_success (with_reducible show wpAny _ _ (call (Value.builtin "len") [Value.str (PySem.Str.ofString _) _]) _ _ _)); k_dflt (refine PySem.P.len_str (by omega) ?_))
  trivial
theorem read_none {w : World} {words : Str} {n : Int} {k k2 : Tok} {r : List Nat} (hw : words.length ≤ 100000) (ha : AtR words n (78 :: 111 :: 110 :: 101 :: r)) : C3 w 115 10 60 [.str words k, .int n k2] [] (fun _ => True) (RdOut .none (n + ((4 : Nat) : Int))) := by
  unfold C3 Callee
  k_fill
  intro loose mean mg mb dp un cn cs a ccd cl outer A₀ base h₀ L m news s Q E B F X N T hk hrel hd hu hret
  refine wpAny_call ?_
  k_dflt ktr_enter
  k_steps
  (rename Fr _ _ _ _ => lF); (rename News _ _ _ _ => lN)
  refine' iter_list2 (x := Str.ofString "name") (y := Str.ofString "value") (fun i => i ≤ 0) (Nat.zero_le _) ?hh lF lN ?hm rfl ?turn ?done ?po ?hv
  case hh => rfl
  case po => passes_own
  case hm => k_mem
  case hv => (intro i v hv; rcases three_of hv with ⟨_, rfl⟩ | ⟨_, rfl⟩ | ⟨_, rfl⟩ <;> exact ⟨_, rfl⟩)
  case turn =>
    intro I i v h tk oI u1 u2 hv hi hI F9 N9
    clear lF lN
    rcases three_of hv with ⟨e0, rfl⟩ | ⟨e0, rfl⟩ | ⟨e0, rfl⟩
    all_goals (subst e0; first | (exfalso; revert hi; decide) | skip)
    all_goals k_steps
    all_goals first | walk_at "m_turn2" | (dsimp only [TurnQ]; k_steps)
    all_goals walk_at "m_ret1"
    all_goals simp only [Bd]
  case done =>
    intro u1 u2 h tk hg
    exact absurd hg (by simp)

theorem read_true {w : World} {words : Str} {n : Int} {k k2 : Tok} {r : List Nat} (hw : words.length ≤ 100000) (ha : AtR words n (84 :: 114 :: 117 :: 101 :: r)) : C3 w 115 10 60 [.str words k, .int n k2] [] (fun _ => True) (RdOut (.bool true) (n + ((4 : Nat) : Int))) := by
  unfold C3 Callee
  k_fill
  intro loose mean mg mb dp un cn cs a ccd cl outer A₀ base h₀ L m news s Q E B F X N T hk hrel hd hu hret
  refine wpAny_call ?_
  k_dflt ktr_enter
  k_steps
  (rename Fr _ _ _ _ => lF); (rename News _ _ _ _ => lN)
  refine' iter_list2 (x := Str.ofString "name") (y := Str.ofString "value") (fun i => i ≤ 1) (Nat.zero_le _) ?hh lF lN ?hm rfl ?turn ?done ?po ?hv
  case hh => rfl
  case po => passes_own
  case hm => k_mem
  case hv => (intro i v hv; rcases three_of hv with ⟨_, rfl⟩ | ⟨_, rfl⟩ | ⟨_, rfl⟩ <;> exact ⟨_, rfl⟩)
  case turn =>
    intro I i v h tk oI u1 u2 hv hi hI F9 N9
    clear lF lN
    rcases three_of hv with ⟨e0, rfl⟩ | ⟨e0, rfl⟩ | ⟨e0, rfl⟩
    all_goals (subst e0; first | (exfalso; revert hi; decide) | skip)
    all_goals k_steps
    all_goals first | walk_at "m_turn2" | (dsimp only [TurnQ]; k_steps)
    all_goals walk_at "m_ret1"
    all_goals simp only [Bd]
  case done =>
    intro u1 u2 h tk hg
    exact absurd hg (by simp)

theorem read_false {w : World} {words : Str} {n : Int} {k k2 : Tok} {r : List Nat} (hw : words.length ≤ 100000) (ha : AtR words n (70 :: 97 :: 108 :: 115 :: 101 :: r)) : C3 w 115 10 60 [.str words k, .int n k2] [] (fun _ => True) (RdOut (.bool false) (n + ((5 : Nat) : Int))) := by
  unfold C3 Callee
  k_fill
  intro loose mean mg mb dp un cn cs a ccd cl outer A₀ base h₀ L m news s Q E B F X N T hk hrel hd hu hret
  refine wpAny_call ?_
  k_dflt ktr_enter
  k_steps
  (rename Fr _ _ _ _ => lF); (rename News _ _ _ _ => lN)
  refine' iter_list2 (x := Str.ofString "name") (y := Str.ofString "value") (fun i => i ≤ 2) (Nat.zero_le _) ?hh lF lN ?hm rfl ?turn ?done ?po ?hv
  case hh => rfl
  case po => passes_own
  case hm => k_mem
  case hv => (intro i v hv; rcases three_of hv with ⟨_, rfl⟩ | ⟨_, rfl⟩ | ⟨_, rfl⟩ <;> exact ⟨_, rfl⟩)
  case turn =>
    intro I i v h tk oI u1 u2 hv hi hI F9 N9
    clear lF lN
    rcases three_of hv with ⟨e0, rfl⟩ | ⟨e0, rfl⟩ | ⟨e0, rfl⟩
    all_goals (subst e0; first | (exfalso; revert hi; decide) | skip)
    all_goals k_steps
    all_goals first | walk_at "m_turn2" | (dsimp only [TurnQ]; k_steps)
    all_goals walk_at "m_ret1"
    all_goals simp only [Bd]
  case done =>
    intro u1 u2 h tk hg
    exact absurd hg (by simp)

end Mine
end
section

open PySem PySem.W PyProof.Rows PySem.Calls PySem.Spec
namespace Mine
theorem kw_S3 : True := by
  k_with_none
  trivial
theorem kw_S3_9 : True := by
  k_with "ktr_room" => (simp only [depth_under_make, depth_under_kw, depth_in1, depth_deeper, depth_caller, ktrTop]; omega)
  k_with "ktr_units" => (simp only [units_in1, units_deeper, Around.mark_units, units_caller, ktrTop]; omega)
  k_with "k_room" => ktr_room
  k_with "k_units" => ktr_units
  k_with "tb_rel" => (repeat (first | assumption | apply List.Mem.tail))
  k_with "k_all" => (first | refine allBelow (by assumption) ?_ | refine allBelow (tb_ltOf (by assumption)) ?_); (try dsimp only); omega
  k_with "k_mem" => first | exact List.Mem.head _ | assumption | (refine' List.Mem.tail _ ?_; k_mem)
  trivial
set_option maxRecDepth 100000
set_option maxHeartbeats 1000000

theorem kw_S3_10 : True := by
  k_with "m_enterC" => (refine' code_defC ?qqk1 ?qqk2 ?qqk3 ?qqk4 ?qqk5 ?qqkA ?qqkF ?qqkK ?qqk6 ?qqk7 ?qqk8 ?qqk9 ?qqkB ?qqkD ?_ ?qqc2 ?qqc3 ?qqc4; (case qqkA => exact rfl); (case qqkF => exact rfl); (case qqkK => assumption); (case qqk1 => k_asm); (case qqk2 => k_asm); (case qqk3 => k_asm); (case qqk4 => k_asm); (case qqk5 => k_asm); (case qqk6 => k_is); (case qqk7 => k_is); (case qqk8 => ktr_room); (case qqk9 => exact BindsTo.of_eq rfl); (case qqkB => exact rfl); (case qqkD => decide +kernel); (case qqc2 => exact rfl); (case qqc3 => exact rfl); (case qqc4 => exact rfl); k_whole; intro g' L' h' tk' cells' FG' F' N' Y' B' X' T' qql1; k_cells Y'; (try simp only [List.cons_append, List.nil_append] at N'); (try dsimp only); (try k_fold))
  k_with "exec For" => (k_here; refine wpAny_For ?_ (fun _ => rfl))
  k_with "exec For Tuple List cons nil" => (k_here; refine wpAny_For ?_ (fun _ => rfl))
  k_with "spliced" => (k_here; first | refine args_cons ?_ | (refine args_nil ?_; try dsimp only [List.cons_append, List.nil_append]))
  k_with "m_lit" => first | exact lt_None | exact lt_True | exact lt_False | exact lt_q | exact lt_d | exact lt_po | exact lt_pc | exact lt_bo | exact lt_bc | exact lt_cs | exact lt_cp | exact lt_mi | exact lt_ze | exact lt_nl | exact lt_bs | exact lt_n | exact lt_one _
  k_with "m_yes" => (refine' sl_yes ?qqha ?qqhk ?qqhl ?qqhe; (case qqhl => walk_at "m_lit"); (case qqha => assumption); (case qqhk => decide); (case qqhe => rfl))
  k_with "m_no" => first
  | (refine' sl_no ?qqha ?qqhk ?qqhl ?qqhc; (case qqhl => walk_at "m_lit"); (case qqha => assumption); (case qqhk => decide); (case qqhc => first | assumption | omega))
  | (refine' sl_no2 ?qqha ?qqhk ?qqhl ?qqhc; (case qqhl => walk_at "m_lit"); (case qqha => assumption); (case qqhk => decide); (case qqhc => first | assumption | omega))
  | (refine' sl_end ?qqha ?qqhk ?qqhl; (case qqhl => walk_at "m_lit"); (case qqha => assumption); (case qqhk => decide))
  k_with "compareOp Eq str str" => (k_here; (with_reducible show wpAny _ _ (compareOp _ (Value.str (Txt.slice _ _ _) _) _) _ _ _); k_dflt (first | (refine' eq_is (b := true) ?qqe ?_; (case qqe => walk_at "m_yes")) | (refine' eq_is (b := false) ?qqe ?_; (case qqe => walk_at "m_no"))))
  k_with "compareOp NotEq str str" => (k_here; (with_reducible show wpAny _ _ (compareOp _ (Value.str (Txt.slice _ _ _) _) _) _ _ _); k_dflt (first | (refine' ne_is (b := true) ?qqe ?_; (case qqe => walk_at "m_yes")) | (refine' ne_is (b := false) ?qqe ?_; (case qqe => walk_at "m_no"))))
  k_with "m_turn2" => (refine' list2_turn ?qqF ?qqN ?qqhI ?qqh1 ?qqh2 ?qqhm ?qqhg; (case qqF => k_asm); (case qqN => k_asm); (case qqhI => assumption); (case qqh1 => k_mem); (case qqh2 => (intro p hp; (walk_at "tb_rel"))); (case qqhm => (intro z h1 h2; simp only [if_neg h1, if_neg h2])); (case qqhg => decide))
  k_with "m_lt" => first | assumption | exact tb_ltOf (by assumption) | exact tb_ltOf (And.right (by assumption)) | exact tb_ltOf (And.right (And.right (by assumption))) | exact tb_ltOf (And.right (And.right (And.right (by assumption)))) | exact tb_ltOf (And.right (And.right (And.right (And.right (by assumption))))) | exact tb_ltOf (And.right (And.right (And.right (And.right (And.right (by assumption)))))) | exact tb_ltOf (And.right (And.right (And.right (And.right (And.right (And.right (by assumption))))))) | exact tb_ltOf (And.right (And.right (And.right (And.right (And.right (And.right (And.right (by assumption)))))))) | exact tb_ltOf (And.right (And.right (And.right (And.right (And.right (And.right (And.right (And.right (by assumption)))))))))
  k_with "m_ret1" => ((rename Fr _ _ _ _ => lF'); (rename News _ _ _ _ => lN'); (refine' rd_ret1 ?qqhret lF' lN' ?qqhm ?qqhs ?qqab ?_; (case qqhret => assumption); (case qqhm => k_mem); (case qqhs => (intro p hp; (walk_at "tb_rel"))); (case qqab => walk_at "m_lt")))
  k_with "subscriptTail Name Name str int" => (k_here; (with_reducible show wpAny _ _ (subscriptTail _ _ (Value.str _ _) (Value.int _ _)) _ _ _); k_dflt (refine' item_at ?qqha ?qqhw ?_ ?qqhs ?qqht; (case qqha => assumption); (case qqhw => assumption); (case qqhs => with_unfolding_all rfl); (case qqht => (intro _; with_unfolding_all rfl)); k_whole))
  k_with "exec While BoolOp cons nil" => (k_here; refine held_off ?_)
  k_with "exec While Compare cons nil" => (k_here; refine held_off ?_)
  k_with "m_ne" => first | assumption | omega
  k_with "m_ch1" => (refine' ch_yes ?qqhl ?qqhc; (case qqhl => walk_at "m_lit"); (case qqhc => first | rfl | omega))
  k_with "m_ch0" => (refine' ch_no ?qqhl ?qqhc; (case qqhl => walk_at "m_lit"); (case qqhc => walk_at "m_ne"))
  k_with "compareOp Eq str str" => (k_here; (with_reducible show wpAny _ _ (compareOp _ (Value.str (Str.mk #[_]) _) _) _ _ _); k_dflt (first | (refine' eq_is (b := true) ?qqe ?_; (case qqe => walk_at "m_ch1")) | (refine' eq_is (b := false) ?qqe ?_; (case qqe => walk_at "m_ch0"))))
  k_with "compareOp NotEq str str" => (k_here; (with_reducible show wpAny _ _ (compareOp _ (Value.str (Str.mk #[_]) _) _) _ _ _); k_dflt (first | (refine' ne_is (b := true) ?qqe ?_; (case qqe => walk_at "m_ch1")) | (refine' ne_is (b := false) ?qqe ?_; (case qqe => walk_at "m_ch0"))))
  k_with "compareOp NotIn str ref" => (k_here; k_dflt (refine' notinL ?qqN ?qqm ?qqi ?qqv ?_; (case qqN => k_asm); (case qqm => k_mem); (case qqi => exact .cons _ _ (.cons _ _ (.cons _ _ .nil))); (case qqv => exact nb_any (by assumption) (by omega)); k_whole))
  k_with "ktr_rel" => (rw [sizeLine_eq]; (try simp only [PySem.Str.length_append, len1c, len_nl]); omega)
  k_with "inplaceOp Add str str" => (k_here; (refine PyProof.Rows.iadd_str (hsz := ?qqhsz) ?_); (case qqhsz => (walk_at "ktr_rel")); intro _ _)
  k_with "KswPost" => (refine held_off ?_)
  k_with "call builtin:len" => (k_here; (with_reducible show wpAny _ _ (call (Value.builtin "len") [Value.str _ _]) _ _ _); (fail_if_success (with_reducible show wpAny _ _ (call (Value.builtin "len") [Value.str (PySem.Str.ofString _) _]) _ _ _)); k_dflt (refine PySem.P.len_str (by omega) ?_))
  k_with "isTrue BoolOp" => (k_here; (fail_if_success (rename GoJ => hM9)); refine held_off ?_)
  trivial
theorem read_text {w : World} {words x : Str} {n : Int} {k k2 : Tok} {q : Nat} {post : List Nat} (hw : words.length ≤ 100000) (hx : okText x) (hxl : x.length ≤ 100) (hq : reprQuote x = q) (ha : AtR words n (q :: (esc q (sg x) ++ q :: post))) :
   C3 w 101 10 60 [.str words k, .int n k2] [] (fun _ => True) (RdOut (.str x) (n + ((shC (.str x)).length : Nat))) := by
  have hq' : q = 34 ∨ q = 39 := hq ▸ quote_is x
  unfold C3 Callee
  k_fill
  intro loose mean mg mb dp un cn cs a ccd cl outer A₀ base h₀ L m news s Q E B F X N T hk hrel hd hu hret
  refine wpAny_call ?_
  k_dflt ktr_enter
  k_steps
  (rename Fr _ _ _ _ => lF); (rename News _ _ _ _ => lN)
  unfold Held
  refine' ksw_while (fun _ : TxS => news) (fun c => [(Str.ofString "out", .str c.out c.k1), (Str.ofString "at", .int c.pos c.k2)]) (TxOk words x q post) [] (fun _ => True) (fun c => (sg x).length - c.i) ⟨n + 1, Str.ofString "", 0, ?t1, ?t2⟩ lF lN ?hf ?hk trivial ?turn ?po
  case hk => (refine List.forall_mem_cons.mpr ⟨?_, List.forall_mem_cons.mpr ⟨?_, List.forall_mem_nil _⟩⟩ <;> rfl)
  case hf => exact ⟨Nat.zero_le _, by simpa using ha.step, lt_empty.trans (by simp)⟩
  case po => passes_own
  case turn =>
    rintro ⟨pos, out, i, k1, k2⟩ u h tk hC _ F9 N9
    clear lF lN
    have hi := hC.1
    have hat := hC.2.1
    have hout := hC.2.2
    clear hC
    have hJ : GoJ := trivial
    dsimp only at hi hat hout F9 N9
    have hol : out.length ≤ 100 := by
      rw [← sg_length, hout, List.length_take, sg_length]; omega
    rcases Nat.lt_or_ge i (sg x).length with hlt | hge
    · have hc := List.getElem?_eq_getElem hlt
      generalize (sg x)[i] = c at hc
      have hd : (sg x).drop i = c :: (sg x).drop (i + 1) := by rw [List.drop_eq_getElem_cons hlt]; congr 1; rw [List.getElem?_eq_getElem hlt] at hc; exact Option.some.inj hc
      have ht : (sg x).take (i + 1) = (sg x).take i ++ [c] := by rw [List.take_add_one, hc]; rfl
      have okc := hx c (List.mem_of_getElem? hc)
      rw [hd, esc_cons] at hat
      by_cases h1 : c = q ∨ c = 92
      · rw [reprChar_esc h1] at hat
        have hat0 : AtR words pos (92 :: c :: (esc q ((sg x).drop (i + 1)) ++ q :: post)) := by simpa using hat
        have hat1 := hat0.step
        have hat2 := hat1.step
        clear hat
        have hl0 := hat0.lt
        k_steps
        unfold Held
        refine' ksw_end (⟨pos + 1 + 1, out ++ ⟨#[c]⟩, i + 1, ?u0, ?v0⟩ : TxS) ?F ?N ?hn ?hf ?hk ?hr trivial ?hm
        case F => k_asm
        case N => k_asm
        case hk => (refine List.forall_mem_cons.mpr ⟨?_, List.forall_mem_cons.mpr ⟨?_, List.forall_mem_nil _⟩⟩ <;> rfl)
        case hn => (intro p hp; (walk_at "tb_rel"))
        case hf => exact ⟨hlt, hat2, by rw [sg_append, hout, ht]⟩
        case hr => (intro z h1 h2; have e1 := h1 _ (List.Mem.head _); have e2 := h1 _ (List.Mem.tail _ (List.Mem.head _)); dsimp only at e1 e2; simp [kstB, e1, e2])
        case hm => (dsimp only; omega)
      · by_cases h3 : c = 10
        · subst h3
          rw [reprChar_nl (by omega)] at hat
          have hat0 : AtR words pos (92 :: 110 :: (esc q ((sg x).drop (i + 1)) ++ q :: post)) := by simpa using hat
          have hat1 := hat0.step
          have hat2 := hat1.step
          clear hat
          have hl0 := hat0.lt
          k_steps
          unfold Held
          refine' ksw_end (⟨pos + 1 + 1, out ++ Str.ofString "\n", i + 1, ?u1, ?v1⟩ : TxS) ?F ?N ?hn ?hf ?hk ?hr trivial ?hm
          case F => k_asm
          case N => k_asm
          case hk => (refine List.forall_mem_cons.mpr ⟨?_, List.forall_mem_cons.mpr ⟨?_, List.forall_mem_nil _⟩⟩ <;> rfl)
          case hn => (intro p hp; (walk_at "tb_rel"))
          case hf => exact ⟨hlt, hat2, by rw [sg_append, hout, ht, lt_nl]⟩
          case hr => (intro z h1 h2; have e1 := h1 _ (List.Mem.head _); have e2 := h1 _ (List.Mem.tail _ (List.Mem.head _)); dsimp only at e1 e2; simp [kstB, e1, e2])
          case hm => (dsimp only; omega)
        · rw [reprChar_plain okc (fun e => h1 (.inl e)) (fun e => h1 (.inr e)) h3] at hat
          have hat0 : AtR words pos (c :: (esc q ((sg x).drop (i + 1)) ++ q :: post)) := by simpa using hat
          have hat1 := hat0.step
          clear hat
          have hl0 := hat0.lt
          have n1 : c ≠ q := fun e => h1 (.inl e)
          have n2 : c ≠ 92 := fun e => h1 (.inr e)
          k_steps
          unfold Held
          refine' ksw_end (⟨pos + 1, out ++ ⟨#[c]⟩, i + 1, ?u2, ?v2⟩ : TxS) ?F ?N ?hn ?hf ?hk ?hr trivial ?hm
          case F => k_asm
          case N => k_asm
          case hk => (refine List.forall_mem_cons.mpr ⟨?_, List.forall_mem_cons.mpr ⟨?_, List.forall_mem_nil _⟩⟩ <;> rfl)
          case hn => (intro p hp; (walk_at "tb_rel"))
          case hf => exact ⟨hlt, hat1, by rw [sg_append, hout, ht]⟩
          case hr => (intro z h1 h2; have e1 := h1 _ (List.Mem.head _); have e2 := h1 _ (List.Mem.tail _ (List.Mem.head _)); dsimp only at e1 e2; simp [kstB, e1, e2])
          case hm => (dsimp only; omega)
    · have ex : out = x := sg_ext (by rw [hout, List.take_of_length_le hge])
      subst ex
      rw [List.drop_of_length_le hge, esc_nil, List.nil_append] at hat
      have hl0 := hat.lt
      have he : pos + 1 = n + ((shC (.str out)).length : Nat) := by
        have e1 := hat.2.1
        have e2 := ha.2.1
        have e3 : shC (.str out) = q :: (esc q (sg out) ++ [q]) := by rw [shC, PyData.shown_str, reprText_sg, hq]
        rw [e3]
        simp only [List.length_cons, List.length_append, List.length_nil] at *
        omega
      rw [← he] at hret
      have hb : Bd [] (.str out) (.str out k1) := by simp only [Bd]; exact ⟨_, rfl⟩
      refine' mono_bool (b := false) ?hw2 ?go2
      case hw2 =>
        clear hret
        k_steps
        all_goals first | (exfalso; omega) | exact is_bool
      intro t9
      clear hJ
      dsimp only
      k_steps
      unfold Held
      refine' mono_bool (b := false) ?hw3 ?go3
      case hw3 =>
        have hJ : GoJ := trivial
        clear hret
        rcases hq' with rfl | rfl
        all_goals k_steps
        all_goals first
          | exact (tx_a (by assumption) hq).elim
          | exact (tx_b (by assumption) hq).elim
          | exact (tx_c (by assumption) (by assumption) hq).elim
          | exact (tx_d (x := out) (by assumption) (by assumption)).elim
          | exact is_bool
      intro t10
      dsimp only
      k_steps
      walk_at "m_ret1"
      exact hb
end Mine
end
section

open PySem PySem.W PyProof.Rows PySem.Calls PySem.Spec
namespace Mine
theorem kw_S4 : True := by
  k_with_none
  trivial
theorem kw_S4_11 : True := by
  k_with "ktr_room" => (simp only [depth_under_make, depth_under_kw, depth_in1, depth_deeper, depth_caller, ktrTop]; omega)
  k_with "ktr_units" => (simp only [units_in1, units_deeper, Around.mark_units, units_caller, ktrTop]; omega)
  k_with "k_room" => ktr_room
  k_with "k_units" => ktr_units
  k_with "tb_rel" => (repeat (first | assumption | apply List.Mem.tail))
  k_with "k_all" => (first | refine allBelow (by assumption) ?_ | refine allBelow (tb_ltOf (by assumption)) ?_); (try dsimp only); omega
  k_with "k_mem" => first | exact List.Mem.head _ | assumption | (refine' List.Mem.tail _ ?_; k_mem)
  trivial
set_option maxRecDepth 100000
set_option maxHeartbeats 1000000

theorem kw_S4_12 : True := by
  k_with "m_enterC" => (refine' code_defC ?qqk1 ?qqk2 ?qqk3 ?qqk4 ?qqk5 ?qqkA ?qqkF ?qqkK ?qqk6 ?qqk7 ?qqk8 ?qqk9 ?qqkB ?qqkD ?_ ?qqc2 ?qqc3 ?qqc4; (case qqkA => exact rfl); (case qqkF => exact rfl); (case qqkK => assumption); (case qqk1 => k_asm); (case qqk2 => k_asm); (case qqk3 => k_asm); (case qqk4 => k_asm); (case qqk5 => k_asm); (case qqk6 => k_is); (case qqk7 => k_is); (case qqk8 => ktr_room); (case qqk9 => exact BindsTo.of_eq rfl); (case qqkB => exact rfl); (case qqkD => decide +kernel); (case qqc2 => exact rfl); (case qqc3 => exact rfl); (case qqc4 => exact rfl); k_whole; intro g' L' h' tk' cells' FG' F' N' Y' B' X' T' qql1; k_cells Y'; (try simp only [List.cons_append, List.nil_append] at N'); (try dsimp only); (try k_fold))
  k_with "exec For" => (k_here; refine wpAny_For ?_ (fun _ => rfl))
  k_with "exec For Tuple List cons nil" => (k_here; refine wpAny_For ?_ (fun _ => rfl))
  k_with "spliced" => (k_here; first | refine args_cons ?_ | (refine args_nil ?_; try dsimp only [List.cons_append, List.nil_append]))
  k_with "m_lit" => first | exact lt_None | exact lt_True | exact lt_False | exact lt_q | exact lt_d | exact lt_po | exact lt_pc | exact lt_bo | exact lt_bc | exact lt_cs | exact lt_cp | exact lt_mi | exact lt_ze | exact lt_nl | exact lt_bs | exact lt_n | exact lt_one _
  k_with "m_yes" => (refine' sl_yes ?qqha ?qqhk ?qqhl ?qqhe; (case qqhl => walk_at "m_lit"); (case qqha => assumption); (case qqhk => decide); (case qqhe => rfl))
  k_with "m_no" => first
  | (refine' sl_no ?qqha ?qqhk ?qqhl ?qqhc; (case qqhl => walk_at "m_lit"); (case qqha => assumption); (case qqhk => decide); (case qqhc => first | assumption | omega))
  | (refine' sl_no2 ?qqha ?qqhk ?qqhl ?qqhc; (case qqhl => walk_at "m_lit"); (case qqha => assumption); (case qqhk => decide); (case qqhc => first | assumption | omega))
  | (refine' sl_end ?qqha ?qqhk ?qqhl; (case qqhl => walk_at "m_lit"); (case qqha => assumption); (case qqhk => decide))
  k_with "compareOp Eq str str" => (k_here; (with_reducible show wpAny _ _ (compareOp _ (Value.str (Txt.slice _ _ _) _) _) _ _ _); k_dflt (first | (refine' eq_is (b := true) ?qqe ?_; (case qqe => walk_at "m_yes")) | (refine' eq_is (b := false) ?qqe ?_; (case qqe => walk_at "m_no"))))
  k_with "compareOp NotEq str str" => (k_here; (with_reducible show wpAny _ _ (compareOp _ (Value.str (Txt.slice _ _ _) _) _) _ _ _); k_dflt (first | (refine' ne_is (b := true) ?qqe ?_; (case qqe => walk_at "m_yes")) | (refine' ne_is (b := false) ?qqe ?_; (case qqe => walk_at "m_no"))))
  k_with "m_turn2" => (refine' list2_turn ?qqF ?qqN ?qqhI ?qqh1 ?qqh2 ?qqhm ?qqhg; (case qqF => k_asm); (case qqN => k_asm); (case qqhI => assumption); (case qqh1 => k_mem); (case qqh2 => (intro p hp; (walk_at "tb_rel"))); (case qqhm => (intro z h1 h2; simp only [if_neg h1, if_neg h2])); (case qqhg => decide))
  k_with "m_lt" => first | assumption | exact tb_ltOf (by assumption) | exact tb_ltOf (And.right (by assumption)) | exact tb_ltOf (And.right (And.right (by assumption))) | exact tb_ltOf (And.right (And.right (And.right (by assumption)))) | exact tb_ltOf (And.right (And.right (And.right (And.right (by assumption))))) | exact tb_ltOf (And.right (And.right (And.right (And.right (And.right (by assumption)))))) | exact tb_ltOf (And.right (And.right (And.right (And.right (And.right (And.right (by assumption))))))) | exact tb_ltOf (And.right (And.right (And.right (And.right (And.right (And.right (And.right (by assumption)))))))) | exact tb_ltOf (And.right (And.right (And.right (And.right (And.right (And.right (And.right (And.right (by assumption)))))))))
  k_with "m_ret1" => ((rename Fr _ _ _ _ => lF'); (rename News _ _ _ _ => lN'); (refine' rd_ret1 ?qqhret lF' lN' ?qqhm ?qqhs ?qqab ?_; (case qqhret => assumption); (case qqhm => k_mem); (case qqhs => (intro p hp; (walk_at "tb_rel"))); (case qqab => walk_at "m_lt")))
  k_with "subscriptTail Name Name str int" => (k_here; (with_reducible show wpAny _ _ (subscriptTail _ _ (Value.str _ _) (Value.int _ _)) _ _ _); k_dflt (refine' item_at ?qqha ?qqhw ?_ ?qqhs ?qqht; (case qqha => assumption); (case qqhw => assumption); (case qqhs => with_unfolding_all rfl); (case qqht => (intro _; with_unfolding_all rfl)); k_whole))
  k_with "exec While BoolOp cons nil" => (k_here; refine held_off ?_)
  k_with "exec While Compare cons nil" => (k_here; refine held_off ?_)
  k_with "m_ne" => first | assumption | omega
  k_with "m_ch1" => (refine' ch_yes ?qqhl ?qqhc; (case qqhl => walk_at "m_lit"); (case qqhc => first | rfl | omega))
  k_with "m_ch0" => (refine' ch_no ?qqhl ?qqhc; (case qqhl => walk_at "m_lit"); (case qqhc => walk_at "m_ne"))
  k_with "compareOp Eq str str" => (k_here; (with_reducible show wpAny _ _ (compareOp _ (Value.str (Str.mk #[_]) _) _) _ _ _); k_dflt (first | (refine' eq_is (b := true) ?qqe ?_; (case qqe => walk_at "m_ch1")) | (refine' eq_is (b := false) ?qqe ?_; (case qqe => walk_at "m_ch0"))))
  k_with "compareOp NotEq str str" => (k_here; (with_reducible show wpAny _ _ (compareOp _ (Value.str (Str.mk #[_]) _) _) _ _ _); k_dflt (first | (refine' ne_is (b := true) ?qqe ?_; (case qqe => walk_at "m_ch1")) | (refine' ne_is (b := false) ?qqe ?_; (case qqe => walk_at "m_ch0"))))
  k_with "compareOp NotIn str ref" => (k_here; k_dflt (refine' notinL ?qqN ?qqm ?qqi ?qqv ?_; (case qqN => k_asm); (case qqm => k_mem); (case qqi => exact .cons _ _ (.cons _ _ (.cons _ _ .nil))); (case qqv => exact nb_any (by assumption) (by omega)); k_whole))
  k_with "ktr_rel" => (rw [sizeLine_eq]; (try simp only [PySem.Str.length_append, len1c, len_nl]); omega)
  k_with "inplaceOp Add str str" => (k_here; (refine PyProof.Rows.iadd_str (hsz := ?qqhsz) ?_); (case qqhsz => (walk_at "ktr_rel")); intro _ _)
  k_with "KswPost" => (refine held_off ?_)
  k_with "call builtin:len" => (k_here; (with_reducible show wpAny _ _ (call (Value.builtin "len") [Value.str _ _]) _ _ _); (fail_if_success (with_reducible show wpAny _ _ (call (Value.builtin "len") [Value.str (PySem.Str.ofString _) _]) _ _ _)); k_dflt (refine PySem.P.len_str (by omega) ?_))
  k_with "compareOp In str str" => (k_here; (with_reducible show wpAny _ _ (compareOp _ (Value.str (Str.mk #[_]) _) (Value.str (Str.ofString "0123456789") _)) _ _ _); k_dflt (first | (refine' in_is (b := true) ?qqe ?_; (case qqe => exact ⟨fun _ => by assumption, fun _ => rfl⟩)) | (refine' in_is (b := false) ?qqe ?_; (case qqe => exact ⟨fun h => (nomatch h), fun h => absurd h (by assumption)⟩))))
  k_with "call builtin:str.find" => (k_here; k_dflt (refine' find_ch ?qqhc ?_; (case qqhc => assumption); k_whole))
  trivial
noncomputable def SgIs (σ c c0 : Nat) : Prop := (σ = 0 ∧ c = c0) ∨ (σ = 1 ∧ c = 45)
theorem kw_S4_13 : True := by
  k_with "eval IfExp" => (k_here; (fail_if_success (rename GoI => hM9)); refine held_off ?_)
  k_with "isTrue BoolOp" => (k_here; (fail_if_success (rename GoJ => hM9)); refine held_off ?_)
  trivial
theorem read_int {w : World} {words : Str} {n : Int} {k k2 : Tok} {σ c c0 : Nat} {r0 ds post : List Nat} (hσ : SgIs σ c c0) (hw : words.length ≤ 100000) (hd : ∀ c ∈ c0 :: ds, isDg c) (hz : c0 = 48 → σ = 0 ∧ ds = []) (hp : ∀ c r, post = c :: r → ¬ isDg c) (hv : dval (c0 :: ds) < 1000000) (ha : AtR words n (c :: r0)) (ha' : AtR words (n + (σ : Int)) (c0 :: (ds ++ post))) :
   C3 w 115 10 60 [.str words k, .int n k2] [] (fun _ => True) (RdOut (.int (if σ = 0 then (dval (c0 :: ds) : Int) else -(dval (c0 :: ds) : Int))) (n + ((σ + (c0 :: ds).length : Nat) : Int))) := by
  have hc0 := hd c0 (.head _)
  have hc1 : 48 ≤ c0 := hc0.1
  have hc2 : c0 < 58 := hc0.2
  have hcr : c = 45 ∨ (48 ≤ c ∧ c < 58) := by unfold SgIs at hσ; omega
  unfold C3 Callee
  k_fill
  intro loose mean mg mb dp un cn cs a ccd cl outer A₀ base h₀ L m news s Q E B F X N T hk hrel hd9 hu9 hret
  refine wpAny_call ?_
  k_dflt ktr_enter
  k_steps
  (rename Fr _ _ _ _ => lF); (rename News _ _ _ _ => lN)
  refine' iter_list2 (x := Str.ofString "name") (y := Str.ofString "value") (fun i => True) trivial ?hh lF lN ?hm rfl ?turn ?done ?po ?hv
  case hh => rfl
  case po => passes_own
  case hm => k_mem
  case hv => (intro i v hv; rcases three_of hv with ⟨_, rfl⟩ | ⟨_, rfl⟩ | ⟨_, rfl⟩ <;> exact ⟨_, rfl⟩)
  case turn =>
    intro I i v h tk oI u1 u2 hv hi hI F9 N9
    clear lF lN
    rcases three_of hv with ⟨e0, rfl⟩ | ⟨e0, rfl⟩ | ⟨e0, rfl⟩
    all_goals k_steps
    all_goals walk_at "m_turn2"
  case done =>
    intro u1 u2 h tk hg F9 N9
    clear lF lN
    have hl0 := ha.lt
    have hl1 := ha'.lt
    have hJ : GoJ := trivial
    dsimp only
    k_steps
    unfold Held
    refine' mono_int (n := n + (σ : Int)) ?hw1 ?go1
    case hw1 =>
      have hI : GoI := trivial
      clear hret
      unfold SgIs at hσ
      rcases hσ with ⟨rfl, rfl⟩ | ⟨rfl, rfl⟩
      all_goals k_steps
      all_goals exact is_int (by omega)
    intro k8 t8
    dsimp only
    k_steps
    (rename Fr _ _ _ _ => lF); (rename News _ _ _ _ => lN)
    unfold Held
    have hat' : AtR words (n + (σ : Int)) ((c0 :: ds).drop 0 ++ post) := ha'
    generalize hds : c0 :: ds = dl at hd hv hat' hret
    clear hcr
    refine' ksw_while (fun _ : IntS => _) (fun c => [(Str.ofString "number", .int c.num c.k1), (Str.ofString "end", .int c.pos c.k2)]) (IntOk words dl post) [] (fun _ => True) (fun c => dl.length - c.i) ⟨n + (σ : Int), 0, 0, ?t1, ?t2⟩ lF lN ?hf ?hk trivial ?turn ?po
    case hk => (refine List.forall_mem_cons.mpr ⟨?_, List.forall_mem_cons.mpr ⟨?_, List.forall_mem_nil _⟩⟩ <;> rfl)
    case hf => exact ⟨Nat.zero_le _, hat', rfl⟩
    case po => passes_own
    case turn =>
      rintro ⟨pos, num, i, k1, k2⟩ u h tk hC _ F9 N9
      clear lF lN
      have hi := hC.1
      have hat := hC.2.1
      have hnum := hC.2.2
      clear hC
      dsimp only at hi hat hnum F9 N9
      have hb := dval_take dl i
      have hnum0 : 0 ≤ num ∧ num < 1000000 := by omega
      rcases Nat.lt_or_ge i dl.length with hlt | hge
      · have hc := List.getElem?_eq_getElem hlt
        generalize dl[i] = c at hc
        have hdr : dl.drop i = c :: dl.drop (i + 1) := by rw [List.drop_eq_getElem_cons hlt]; congr 1; rw [List.getElem?_eq_getElem hlt] at hc; exact Option.some.inj hc
        have ht : dl.take (i + 1) = dl.take i ++ [c] := by rw [List.take_add_one, hc]; rfl
        have hcd : isDg c := hd c (List.mem_of_getElem? hc)
        rw [hdr, List.cons_append] at hat
        have hat1 := hat.step
        have hl2 := hat.lt
        k_steps
        unfold Held
        refine' ksw_end (⟨pos + 1, _, i + 1, ?u1, ?v1⟩ : IntS) ?F ?N ?hn ?hf ?hk ?hr trivial ?hm
        case F => k_asm
        case N => k_asm
        case hk => (refine List.forall_mem_cons.mpr ⟨?_, List.forall_mem_cons.mpr ⟨?_, List.forall_mem_nil _⟩⟩ <;> rfl)
        case hn => (intro p hp; (walk_at "tb_rel"))
        case hf =>
          refine ⟨hlt, hat1, ?_⟩
          have h48 := hcd.1
          dsimp only
          rw [ht, dval_snoc]
          omega
        case hr => (intro z h1 h2; have e1 := h1 _ (List.Mem.head _); have e2 := h1 _ (List.Mem.tail _ (List.Mem.head _)); dsimp only at e1 e2; simp [kstB, e1, e2])
        case hm => (dsimp only; omega)
      · rw [List.drop_of_length_le hge, List.nil_append] at hat
        rw [List.take_of_length_le hge] at hnum
        have hpos : pos = n + (σ : Int) + (dl.length : Nat) := by
          have e1 := hat.2.1
          have e2 := hat'.2.1
          rw [List.drop_zero, List.length_append] at e2
          omega
        have hln : dl.length = ds.length + 1 := by rw [← hds]; rfl
        have he : pos = n + ((σ + dl.length : Nat) : Int) := by rw [hpos]; omega
        rw [← he] at hret
        have hbd : ∀ tk9, Bd [] (.int (if σ = 0 then (dval dl : Int) else -(dval dl : Int))) (.int (if σ = 0 then num else -num) tk9) := by intro tk9; rw [hnum]; simp only [Bd]; exact ⟨_, rfl⟩
        refine' mono_bool (b := false) ?hw2 ?go2
        case hw2 =>
          clear hret
          cases post with
          | nil =>
            have hend : pos = words.length := by have := hat.2.1; simpa using this
            k_steps
            all_goals first | (exfalso; omega) | exact is_bool
          | cons c r =>
            have hnd : ¬ isDg c := hp c r rfl
            have hl2 := hat.lt
            k_steps
            all_goals first | (exfalso; omega) | exact is_bool
        intro t9
        clear hJ
        dsimp only
        k_steps
        unfold Held
        refine' mono_bool (b := false) ?hw3 ?go3
        case hw3 =>
          clear hret
          have hJ : GoJ := trivial
          by_cases hz0 : c0 = 48
          · have hz1 := hz hz0
            have hln1 : dl.length = 1 := by rw [hln, hz1.2]; rfl
            subst hz0
            k_steps
            all_goals first | (exfalso; omega) | exact is_bool
          · k_steps
            all_goals first | (exfalso; omega) | exact is_bool
        intro t10
        dsimp only
        k_steps
        unfold Held
        refine' mono_int (n := if σ = 0 then num else -num) ?hw4 ?go4
        case hw4 =>
          have hI : GoI := trivial
          clear hret
          unfold SgIs at hσ
          rcases hσ with ⟨rfl, rfl⟩ | ⟨rfl, rfl⟩
          all_goals k_steps
          all_goals exact is_int rfl
        intro k11 t11
        dsimp only
        k_steps
        walk_at "m_ret1"
        exact hbd _
theorem read_int_pos {w : World} {words : Str} {n : Int} {k k2 : Tok} {c0 : Nat} {ds post : List Nat} (hw : words.length ≤ 100000) (hd : ∀ c ∈ c0 :: ds, isDg c) (hz : ds ≠ [] → c0 ≠ 48) (hp : ∀ c r, post = c :: r → ¬ isDg c) (hv : dval (c0 :: ds) < 1000000) (ha : AtR words n (c0 :: (ds ++ post))) :
   C3 w 115 10 60 [.str words k, .int n k2] [] (fun _ => True) (RdOut (.int ((dval (c0 :: ds) : Int))) (n + ((0 + (c0 :: ds).length : Nat) : Int))) :=
  read_int (σ := 0) (.inl ⟨rfl, rfl⟩) hw hd (fun h => ⟨rfl, Classical.byContradiction fun hne => hz hne h⟩) hp hv ha (by rw [show n + ((0 : Nat) : Int) = n by omega]; exact ha)
theorem read_int_neg {w : World} {words : Str} {n : Int} {k k2 : Tok} {c0 : Nat} {ds post : List Nat} (hw : words.length ≤ 100000) (hd : ∀ c ∈ c0 :: ds, isDg c) (hz : c0 ≠ 48) (hp : ∀ c r, post = c :: r → ¬ isDg c) (hv : dval (c0 :: ds) < 1000000) (ha : AtR words n (45 :: c0 :: (ds ++ post))) :
   C3 w 115 10 60 [.str words k, .int n k2] [] (fun _ => True) (RdOut (.int (-(dval (c0 :: ds) : Int))) (n + ((1 + (c0 :: ds).length : Nat) : Int))) :=
  read_int (σ := 1) (.inr ⟨rfl, rfl⟩) hw hd (fun h => absurd h hz) hp hv ha ha.step
end Mine
end
section

open PySem PySem.W PyProof.Rows PySem.Calls PySem.Spec
namespace Mine
theorem kw_S5 : True := by
  k_with_none
  trivial
theorem kw_S5_14 : True := by
  k_with "ktr_room" => (simp only [depth_under_make, depth_under_kw, depth_in1, depth_deeper, depth_caller, ktrTop]; omega)
  k_with "ktr_units" => (simp only [units_in1, units_deeper, Around.mark_units, units_caller, ktrTop]; omega)
  k_with "k_room" => ktr_room
  k_with "k_units" => ktr_units
  k_with "tb_rel" => (repeat (first | assumption | apply List.Mem.tail))
  k_with "k_all" => (first | refine allBelow (by assumption) ?_ | refine allBelow (tb_ltOf (by assumption)) ?_); (try dsimp only); omega
  k_with "k_mem" => first | exact List.Mem.head _ | assumption | (refine' List.Mem.tail _ ?_; k_mem)
  trivial
set_option maxRecDepth 100000
set_option maxHeartbeats 1000000

theorem kw_S5_15 : True := by
  k_with "m_enterC" => (refine' code_defC ?qqk1 ?qqk2 ?qqk3 ?qqk4 ?qqk5 ?qqkA ?qqkF ?qqkK ?qqk6 ?qqk7 ?qqk8 ?qqk9 ?qqkB ?qqkD ?_ ?qqc2 ?qqc3 ?qqc4; (case qqkA => exact rfl); (case qqkF => exact rfl); (case qqkK => assumption); (case qqk1 => k_asm); (case qqk2 => k_asm); (case qqk3 => k_asm); (case qqk4 => k_asm); (case qqk5 => k_asm); (case qqk6 => k_is); (case qqk7 => k_is); (case qqk8 => ktr_room); (case qqk9 => exact BindsTo.of_eq rfl); (case qqkB => exact rfl); (case qqkD => decide +kernel); (case qqc2 => exact rfl); (case qqc3 => exact rfl); (case qqc4 => exact rfl); k_whole; intro g' L' h' tk' cells' FG' F' N' Y' B' X' T' qql1; k_cells Y'; (try simp only [List.cons_append, List.nil_append] at N'); (try dsimp only); (try k_fold))
  k_with "exec For" => (k_here; refine wpAny_For ?_ (fun _ => rfl))
  k_with "exec For Tuple List cons nil" => (k_here; refine wpAny_For ?_ (fun _ => rfl))
  k_with "spliced" => (k_here; first | refine args_cons ?_ | (refine args_nil ?_; try dsimp only [List.cons_append, List.nil_append]))
  k_with "m_lit" => first | exact lt_None | exact lt_True | exact lt_False | exact lt_q | exact lt_d | exact lt_po | exact lt_pc | exact lt_bo | exact lt_bc | exact lt_cs | exact lt_cp | exact lt_mi | exact lt_ze | exact lt_nl | exact lt_bs | exact lt_n | exact lt_one _
  k_with "m_yes" => (refine' sl_yes ?qqha ?qqhk ?qqhl ?qqhe; (case qqhl => walk_at "m_lit"); (case qqha => assumption); (case qqhk => decide); (case qqhe => rfl))
  k_with "m_no" => first
  | (refine' sl_no ?qqha ?qqhk ?qqhl ?qqhc; (case qqhl => walk_at "m_lit"); (case qqha => assumption); (case qqhk => decide); (case qqhc => first | assumption | omega))
  | (refine' sl_no2 ?qqha ?qqhk ?qqhl ?qqhc; (case qqhl => walk_at "m_lit"); (case qqha => assumption); (case qqhk => decide); (case qqhc => first | assumption | omega))
  | (refine' sl_end ?qqha ?qqhk ?qqhl; (case qqhl => walk_at "m_lit"); (case qqha => assumption); (case qqhk => decide))
  k_with "compareOp Eq str str" => (k_here; (with_reducible show wpAny _ _ (compareOp _ (Value.str (Txt.slice _ _ _) _) _) _ _ _); k_dflt (first | (refine' eq_is (b := true) ?qqe ?_; (case qqe => walk_at "m_yes")) | (refine' eq_is (b := false) ?qqe ?_; (case qqe => walk_at "m_no"))))
  k_with "compareOp NotEq str str" => (k_here; (with_reducible show wpAny _ _ (compareOp _ (Value.str (Txt.slice _ _ _) _) _) _ _ _); k_dflt (first | (refine' ne_is (b := true) ?qqe ?_; (case qqe => walk_at "m_yes")) | (refine' ne_is (b := false) ?qqe ?_; (case qqe => walk_at "m_no"))))
  k_with "m_turn2" => (refine' list2_turn ?qqF ?qqN ?qqhI ?qqh1 ?qqh2 ?qqhm ?qqhg; (case qqF => k_asm); (case qqN => k_asm); (case qqhI => assumption); (case qqh1 => k_mem); (case qqh2 => (intro p hp; (walk_at "tb_rel"))); (case qqhm => (intro z h1 h2; simp only [if_neg h1, if_neg h2])); (case qqhg => decide))
  k_with "m_lt" => first | assumption | exact tb_ltOf (by assumption) | exact tb_ltOf (And.right (by assumption)) | exact tb_ltOf (And.right (And.right (by assumption))) | exact tb_ltOf (And.right (And.right (And.right (by assumption)))) | exact tb_ltOf (And.right (And.right (And.right (And.right (by assumption))))) | exact tb_ltOf (And.right (And.right (And.right (And.right (And.right (by assumption)))))) | exact tb_ltOf (And.right (And.right (And.right (And.right (And.right (And.right (by assumption))))))) | exact tb_ltOf (And.right (And.right (And.right (And.right (And.right (And.right (And.right (by assumption)))))))) | exact tb_ltOf (And.right (And.right (And.right (And.right (And.right (And.right (And.right (And.right (by assumption)))))))))
  k_with "m_ret1" => ((rename Fr _ _ _ _ => lF'); (rename News _ _ _ _ => lN'); (refine' rd_ret1 ?qqhret lF' lN' ?qqhm ?qqhs ?qqab ?_; (case qqhret => assumption); (case qqhm => k_mem); (case qqhs => (intro p hp; (walk_at "tb_rel"))); (case qqab => walk_at "m_lt")))
  k_with "subscriptTail Name Name str int" => (k_here; (with_reducible show wpAny _ _ (subscriptTail _ _ (Value.str _ _) (Value.int _ _)) _ _ _); k_dflt (refine' item_at ?qqha ?qqhw ?_ ?qqhs ?qqht; (case qqha => assumption); (case qqhw => assumption); (case qqhs => with_unfolding_all rfl); (case qqht => (intro _; with_unfolding_all rfl)); k_whole))
  k_with "exec While BoolOp cons nil" => (k_here; refine held_off ?_)
  k_with "exec While Compare cons nil" => (k_here; refine held_off ?_)
  k_with "m_ne" => first | assumption | omega
  k_with "m_ch1" => (refine' ch_yes ?qqhl ?qqhc; (case qqhl => walk_at "m_lit"); (case qqhc => first | rfl | omega))
  k_with "m_ch0" => (refine' ch_no ?qqhl ?qqhc; (case qqhl => walk_at "m_lit"); (case qqhc => walk_at "m_ne"))
  k_with "compareOp Eq str str" => (k_here; (with_reducible show wpAny _ _ (compareOp _ (Value.str (Str.mk #[_]) _) _) _ _ _); k_dflt (first | (refine' eq_is (b := true) ?qqe ?_; (case qqe => walk_at "m_ch1")) | (refine' eq_is (b := false) ?qqe ?_; (case qqe => walk_at "m_ch0"))))
  k_with "compareOp NotEq str str" => (k_here; (with_reducible show wpAny _ _ (compareOp _ (Value.str (Str.mk #[_]) _) _) _ _ _); k_dflt (first | (refine' ne_is (b := true) ?qqe ?_; (case qqe => walk_at "m_ch1")) | (refine' ne_is (b := false) ?qqe ?_; (case qqe => walk_at "m_ch0"))))
  k_with "compareOp NotIn str ref" => (k_here; k_dflt (refine' notinL ?qqN ?qqm ?qqi ?qqv ?_; (case qqN => k_asm); (case qqm => k_mem); (case qqi => exact .cons _ _ (.cons _ _ (.cons _ _ .nil))); (case qqv => exact nb_any (by assumption) (by omega)); k_whole))
  k_with "ktr_rel" => (rw [sizeLine_eq]; (try simp only [PySem.Str.length_append, len1c, len_nl]); omega)
  k_with "inplaceOp Add str str" => (k_here; (refine PyProof.Rows.iadd_str (hsz := ?qqhsz) ?_); (case qqhsz => (walk_at "ktr_rel")); intro _ _)
  k_with "KswPost" => (refine held_off ?_)
  k_with "call builtin:len" => (k_here; (with_reducible show wpAny _ _ (call (Value.builtin "len") [Value.str _ _]) _ _ _); (fail_if_success (with_reducible show wpAny _ _ (call (Value.builtin "len") [Value.str (PySem.Str.ofString _) _]) _ _ _)); k_dflt (refine PySem.P.len_str (by omega) ?_))
  k_with "compareOp In str str" => (k_here; (with_reducible show wpAny _ _ (compareOp _ (Value.str (Str.mk #[_]) _) (Value.str (Str.ofString "0123456789") _)) _ _ _); k_dflt (first | (refine' in_is (b := true) ?qqe ?_; (case qqe => exact ⟨fun _ => by assumption, fun _ => rfl⟩)) | (refine' in_is (b := false) ?qqe ?_; (case qqe => exact ⟨fun h => (nomatch h), fun h => absurd h (by assumption)⟩))))
  k_with "call builtin:str.find" => (k_here; k_dflt (refine' find_ch ?qqhc ?_; (case qqhc => assumption); k_whole))
  k_with "call ref" => (k_here; k_dflt ((with_reducible show wpAny _ _ (call (Value.ref 115) _ _) _ _ _); (with_reducible rename ReadAll _ _ _ _ => ih'); refine' row_call (ih' _ _ ?qqhdi _ _ _ _ _ ?qqhw ?qqhp ?qqha) ?qqB ?qqF ?qqX ?qqN ?qqT ?qqhk ?qqhd ?qqhu ?qqhm ?qqhR ?qqsub ?_; (case qqha => assumption); (case qqhdi => assumption); (case qqhw => assumption); (case qqhp => assumption); (case qqB => k_asm); (case qqF => k_asm); (case qqX => k_asm); (case qqN => k_asm); (case qqT => k_asm); (case qqhk => exact rfl); (case qqhd => ktr_room); (case qqhu => ktr_units); (case qqhR => with_reducible assumption); (case qqhm => k_mem); (case qqsub => (intro p hp; (walk_at "tb_rel"))); k_whole; intro a' v' t' c' tl' h' tk' F' N' off' up' hma' hbd'; (try k_sweep)))
  k_with "call builtin:list.append" => (k_here; k_dflt (refine' appendP ?qqF ?qqN ?qqm ?qqR ?qqsub ?qqz ?_; (case qqF => k_asm); (case qqN => k_asm); (case qqR => with_reducible assumption); (case qqm => k_mem); (case qqsub => (intro p hp; (walk_at "tb_rel"))); (case qqz => omega); k_whole; intro h' F' N'; (try k_sweep)))
  k_with "compareOp NotEq ref ref" => (k_here; k_dflt (refine' ne_nil ?qqN ?qqm1 ?qqm2 ?qqb ?qqsub ?qqok ?qqdep ?qqhu ?qqe ?_; (case qqN => k_asm); (case qqb => assumption); (case qqm1 => k_mem); (case qqm2 => k_mem); (case qqsub => (intro p hp; repeat (first | exact List.mem_append_left _ hp | apply List.Mem.tail))); (case qqok => assumption); (case qqdep => assumption); (case qqhu => ktr_units); (case qqe => first | exact (by assumption : true = _) | exact (by assumption : false = _)); k_whole))
  k_with "call builtin:len" => (k_here; (with_reducible show wpAny _ _ (call (Value.builtin "len") [Value.ref _]) _ _ _); k_dflt (refine' lenL ?qqN ?qqm ?qqe ?qqz ?_; (case qqN => k_asm); (case qqm => k_mem); (case qqe => first | assumption | exact len_snoc (by assumption)); (case qqz => omega); k_whole))
  k_with "subscriptTail Name Constant ref int" => (k_here; k_dflt (first
  | ((with_reducible show wpAny _ _ (subscriptTail _ _ (Value.ref _) (Value.int 0 _)) _ _ _); refine' found0 ?qqN ?qqm ?_ ?qqa ?qqb; (case qqN => k_asm); (case qqm => k_mem); (case qqa => with_unfolding_all rfl); (case qqb => (intro _; with_unfolding_all rfl)); k_whole)
  | ((with_reducible show wpAny _ _ (subscriptTail _ _ (Value.ref _) (Value.int 1 _)) _ _ _); refine' found1 ?qqN ?qqm ?_ ?qqa ?qqb; (case qqN => k_asm); (case qqm => k_mem); (case qqa => with_unfolding_all rfl); (case qqb => (intro _; with_unfolding_all rfl)); k_whole)))
  k_with "call type:tuple" => (k_here; (with_reducible show wpAny _ _ (call (Value.type _) [Value.ref _]) _ _ _); k_dflt (refine' kde_tupleOf ?qqk1 ?qqk2 ?qqk3 ?qqk4 ?qqk5 ?_; (case qqk1 => k_asm); (case qqk2 => k_asm); (case qqk3 => exact News.isList (by k_asm) (by k_mem)); (case qqk4 => (simp only [List.size_toArray, List.length_append, List.length_cons, List.length_nil]; omega)); (case qqk5 => exact rfl); k_whole); intro D' h' F' N' qql1; (try k_lt qql1); (try k_sweep))
  trivial
theorem post_bc (r : List PyData) (post : List Nat) : ∀ c r', sepC r ++ 93 :: post = c :: r' → ¬ isDg c := by
  intro c r' e
  cases r with
  | nil => simp [sepC] at e; unfold isDg; omega
  | cons d r => simp [sepC] at e; unfold isDg; omega
theorem row_list {w : World} {ds : List PyData} {D U : Nat} (IH : ReadAll w ds D U) {words : Str} {n : Int} {k k2 : Tok} {post : List Nat} (hw : words.length ≤ 100000) (ok : OkAll ds) (dep : PyData.depthAll ds ≤ 50) (hlen : ds.length ≤ 1000) (hU : 200 ≤ U) (ha : AtR words n (91 :: (joinC ds ++ 93 :: post))) :
   C3 w 108 (D + 3) (U + 10) [.str words k, .int n k2] [] (fun _ => True) (RdOut (.list ds) (n + ((shC (.list ds)).length : Nat))) := by
  unfold C3 Callee
  k_fill
  intro loose mean mg mb dp un cn cs a ccd cl outer A₀ base h₀ L m news s Q E B F X N T hk hrel hd9 hu9 hret
  refine wpAny_call ?_
  k_dflt ktr_enter
  k_steps
  (rename Fr _ _ _ _ => lF); (rename News _ _ _ _ => lN); (rename (∀ p ∈ news, p.1 < _) => l1)
  unfold Held
  refine' row_while (ds := ds) (cl := 93 :: post) (fun _ => True) trivial lF lN l1 ?hat ?ha0 ?turn ?po
  case hat => rfl
  case ha0 => exact ha.step
  case po => passes_own
  case turn =>
    intro c u h tk hc F9 N9
    clear lF lN
    have hi := hc.2.1
    have hat := hc.2.2.1
    have hvl := hc.2.2.2.1
    have hbd := hc.2.2.2.2.1
    have hoff := hc.2.2.2.2.2.1
    have hup := hc.2.2.2.2.2.2
    have okt : OkAll (ds.take c.i) := OkAll.take _ ok
    have dept : PyData.depthAll (ds.take c.i) ≤ 60 := Nat.le_trans (depth_take _ _) (by omega)
    rcases Nat.lt_or_ge c.i ds.length with hlt | hge
    · have hd : ds[c.i]? = some ds[c.i] := List.getElem?_eq_getElem hlt
      generalize ds[c.i] = d at hd
      refine shC_elim (OkAll.get ok hd) fun c0 r0 e0 n1 n2 n3 => ?_
      have hdr : ds.drop c.i = d :: ds.drop (c.i + 1) := by rw [List.drop_eq_getElem_cons hlt]; congr 1; rw [List.getElem?_eq_getElem hlt] at hd; exact Option.some.inj hd
      have hpost := post_bc (ds.drop (c.i + 1)) post
      by_cases hz : c.i = 0
      · have hat1 : AtR words c.pos (shC d ++ (sepC (ds.drop (c.i + 1)) ++ 93 :: post)) := by
          unfold rowRest at hat
          rw [if_pos hz] at hat
          have e : ds = d :: ds.drop (c.i + 1) := by rw [← hdr, hz, List.drop_zero]
          rw [e] at hat
          simpa [joinC] using hat
        have hat2 : AtR words c.pos (c0 :: (r0 ++ (sepC (ds.drop (c.i + 1)) ++ 93 :: post))) := by rw [e0] at hat1; exact hat1
        have hl2 := hat2.lt
        have hat3 := hat1.skip
        have hne : false = !(ds.take c.i).isEmpty := by rw [hz]; rfl
        k_steps
        unfold Held
        refine' row_end (c := c) (d := d) ?F ?N ?hm ?sub hc hd ?bd ?off ?up ?ha trivial ?hat ?hr
        case F => k_asm
        case N => k_asm
        case bd => assumption
        case hm => k_mem
        case off => assumption
        case up => assumption
        case sub => (intro p hp; (walk_at "tb_rel"))
        case hat => rfl
        case ha => simpa [rowRest] using hat3
        case hr => (intro z h1 h2; (have h3 : z ≠ Str.ofString "found" := by intro e9; subst e9; exact absurd h2 (by decide +kernel)); simp [kstB, h1, h3])
      · have hat1 : AtR words c.pos (44 :: 32 :: (shC d ++ (sepC (ds.drop (c.i + 1)) ++ 93 :: post))) := by
          unfold rowRest at hat
          rw [if_neg hz, hdr] at hat
          simpa [sepC] using hat
        have hl2 := hat1.lt
        have hat2 : AtR words (c.pos + 2) (shC d ++ (sepC (ds.drop (c.i + 1)) ++ 93 :: post)) := hat1.skip (p := [44, 32])
        have hat3 := hat2.skip
        have hne : true = !(ds.take c.i).isEmpty := by
          obtain ⟨j, hj⟩ : ∃ j, c.i = j + 1 := ⟨c.i - 1, by omega⟩
          cases ds with
          | nil => simp at hlt
          | cons x xs => rw [hj]; rfl
        k_steps
        unfold Held
        refine' row_end (c := c) (d := d) ?F ?N ?hm ?sub hc hd ?bd ?off ?up ?ha trivial ?hat ?hr
        case F => k_asm
        case N => k_asm
        case bd => assumption
        case hm => k_mem
        case off => assumption
        case up => assumption
        case sub => (intro p hp; (walk_at "tb_rel"))
        case hat => rfl
        case ha => simpa [rowRest] using hat3
        case hr => (intro z h1 h2; (have h3 : z ≠ Str.ofString "found" := by intro e9; subst e9; exact absurd h2 (by decide +kernel)); simp [kstB, h1, h3])
    · have hie : c.i = ds.length := by omega
      have hat1 : AtR words c.pos (93 :: post) := by
        unfold rowRest at hat
        by_cases hz : c.i = 0
        · have e : ds = [] := List.length_eq_zero_iff.mp (by omega)
          rw [if_pos hz, e] at hat
          simpa [joinC] using hat
        · rw [if_neg hz, List.drop_of_length_le (by omega)] at hat
          simpa [sepC] using hat
      have hl2 := hat1.lt
      rw [List.take_of_length_le (by omega)] at hbd
      have he : c.pos + 1 = n + ((shC (.list ds)).length : Nat) := by
        have e1 := hat1.2.1
        have e2 := ha.2.1
        rw [shC_list]
        simp only [List.length_cons, List.length_append, List.length_nil] at *
        omega
      rw [← he] at hret
      k_steps
      (rename Fr _ _ _ _ => lF'); (rename News _ _ _ _ => lN')
      refine' row_ret (more := c.more) hret lF' lN' ?hm ?hP ?sub ?l1 l1 ?l3 ?bd
      case hm => k_mem
      case hP => k_mem
      case sub => (intro p hp; (walk_at "tb_rel"))
      case l1 => exact fun p hp => tb_ltOf (And.right (by assumption)) p (List.mem_append_right _ hp)
      case l3 => exact fun p hp q hq => Nat.lt_trans (l1 q hq) (hup p hp)
      case bd => (simp only [Bd]; exact ⟨_, c.vs, c.cap, rfl, List.Mem.head _, BdAll.mono (fun p hp => List.Mem.tail _ hp) hbd⟩)
end Mine
end
section

open PySem PySem.W PyProof.Rows PySem.Calls PySem.Spec
namespace Mine
theorem kw_S6 : True := by
  k_with_none
  trivial
theorem kw_S6_16 : True := by
  k_with "ktr_room" => (simp only [depth_under_make, depth_under_kw, depth_in1, depth_deeper, depth_caller, ktrTop]; omega)
  k_with "ktr_units" => (simp only [units_in1, units_deeper, Around.mark_units, units_caller, ktrTop]; omega)
  k_with "k_room" => ktr_room
  k_with "k_units" => ktr_units
  k_with "tb_rel" => (repeat (first | assumption | apply List.Mem.tail))
  k_with "k_all" => (first | refine allBelow (by assumption) ?_ | refine allBelow (tb_ltOf (by assumption)) ?_); (try dsimp only); omega
  k_with "k_mem" => first | exact List.Mem.head _ | assumption | (refine' List.Mem.tail _ ?_; k_mem)
  trivial
set_option maxRecDepth 100000
set_option maxHeartbeats 1000000

theorem kw_S6_17 : True := by
  k_with "m_enterC" => (refine' code_defC ?qqk1 ?qqk2 ?qqk3 ?qqk4 ?qqk5 ?qqkA ?qqkF ?qqkK ?qqk6 ?qqk7 ?qqk8 ?qqk9 ?qqkB ?qqkD ?_ ?qqc2 ?qqc3 ?qqc4; (case qqkA => exact rfl); (case qqkF => exact rfl); (case qqkK => assumption); (case qqk1 => k_asm); (case qqk2 => k_asm); (case qqk3 => k_asm); (case qqk4 => k_asm); (case qqk5 => k_asm); (case qqk6 => k_is); (case qqk7 => k_is); (case qqk8 => ktr_room); (case qqk9 => exact BindsTo.of_eq rfl); (case qqkB => exact rfl); (case qqkD => decide +kernel); (case qqc2 => exact rfl); (case qqc3 => exact rfl); (case qqc4 => exact rfl); k_whole; intro g' L' h' tk' cells' FG' F' N' Y' B' X' T' qql1; k_cells Y'; (try simp only [List.cons_append, List.nil_append] at N'); (try dsimp only); (try k_fold))
  k_with "exec For" => (k_here; refine wpAny_For ?_ (fun _ => rfl))
  k_with "exec For Tuple List cons nil" => (k_here; refine wpAny_For ?_ (fun _ => rfl))
  k_with "spliced" => (k_here; first | refine args_cons ?_ | (refine args_nil ?_; try dsimp only [List.cons_append, List.nil_append]))
  k_with "m_lit" => first | exact lt_None | exact lt_True | exact lt_False | exact lt_q | exact lt_d | exact lt_po | exact lt_pc | exact lt_bo | exact lt_bc | exact lt_cs | exact lt_cp | exact lt_mi | exact lt_ze | exact lt_nl | exact lt_bs | exact lt_n | exact lt_one _
  k_with "m_yes" => (refine' sl_yes ?qqha ?qqhk ?qqhl ?qqhe; (case qqhl => walk_at "m_lit"); (case qqha => assumption); (case qqhk => decide); (case qqhe => rfl))
  k_with "m_no" => first
  | (refine' sl_no ?qqha ?qqhk ?qqhl ?qqhc; (case qqhl => walk_at "m_lit"); (case qqha => assumption); (case qqhk => decide); (case qqhc => first | assumption | omega))
  | (refine' sl_no2 ?qqha ?qqhk ?qqhl ?qqhc; (case qqhl => walk_at "m_lit"); (case qqha => assumption); (case qqhk => decide); (case qqhc => first | assumption | omega))
  | (refine' sl_end ?qqha ?qqhk ?qqhl; (case qqhl => walk_at "m_lit"); (case qqha => assumption); (case qqhk => decide))
  k_with "compareOp Eq str str" => (k_here; (with_reducible show wpAny _ _ (compareOp _ (Value.str (Txt.slice _ _ _) _) _) _ _ _); k_dflt (first | (refine' eq_is (b := true) ?qqe ?_; (case qqe => walk_at "m_yes")) | (refine' eq_is (b := false) ?qqe ?_; (case qqe => walk_at "m_no"))))
  k_with "compareOp NotEq str str" => (k_here; (with_reducible show wpAny _ _ (compareOp _ (Value.str (Txt.slice _ _ _) _) _) _ _ _); k_dflt (first | (refine' ne_is (b := true) ?qqe ?_; (case qqe => walk_at "m_yes")) | (refine' ne_is (b := false) ?qqe ?_; (case qqe => walk_at "m_no"))))
  k_with "m_turn2" => (refine' list2_turn ?qqF ?qqN ?qqhI ?qqh1 ?qqh2 ?qqhm ?qqhg; (case qqF => k_asm); (case qqN => k_asm); (case qqhI => assumption); (case qqh1 => k_mem); (case qqh2 => (intro p hp; (walk_at "tb_rel"))); (case qqhm => (intro z h1 h2; simp only [if_neg h1, if_neg h2])); (case qqhg => decide))
  k_with "m_lt" => first | assumption | exact tb_ltOf (by assumption) | exact tb_ltOf (And.right (by assumption)) | exact tb_ltOf (And.right (And.right (by assumption))) | exact tb_ltOf (And.right (And.right (And.right (by assumption)))) | exact tb_ltOf (And.right (And.right (And.right (And.right (by assumption))))) | exact tb_ltOf (And.right (And.right (And.right (And.right (And.right (by assumption)))))) | exact tb_ltOf (And.right (And.right (And.right (And.right (And.right (And.right (by assumption))))))) | exact tb_ltOf (And.right (And.right (And.right (And.right (And.right (And.right (And.right (by assumption)))))))) | exact tb_ltOf (And.right (And.right (And.right (And.right (And.right (And.right (And.right (And.right (by assumption)))))))))
  k_with "m_ret1" => ((rename Fr _ _ _ _ => lF'); (rename News _ _ _ _ => lN'); (refine' rd_ret1 ?qqhret lF' lN' ?qqhm ?qqhs ?qqab ?_; (case qqhret => assumption); (case qqhm => k_mem); (case qqhs => (intro p hp; (walk_at "tb_rel"))); (case qqab => walk_at "m_lt")))
  k_with "subscriptTail Name Name str int" => (k_here; (with_reducible show wpAny _ _ (subscriptTail _ _ (Value.str _ _) (Value.int _ _)) _ _ _); k_dflt (refine' item_at ?qqha ?qqhw ?_ ?qqhs ?qqht; (case qqha => assumption); (case qqhw => assumption); (case qqhs => with_unfolding_all rfl); (case qqht => (intro _; with_unfolding_all rfl)); k_whole))
  k_with "exec While BoolOp cons nil" => (k_here; refine held_off ?_)
  k_with "exec While Compare cons nil" => (k_here; refine held_off ?_)
  k_with "m_ne" => first | assumption | omega
  k_with "m_ch1" => (refine' ch_yes ?qqhl ?qqhc; (case qqhl => walk_at "m_lit"); (case qqhc => first | rfl | omega))
  k_with "m_ch0" => (refine' ch_no ?qqhl ?qqhc; (case qqhl => walk_at "m_lit"); (case qqhc => walk_at "m_ne"))
  k_with "compareOp Eq str str" => (k_here; (with_reducible show wpAny _ _ (compareOp _ (Value.str (Str.mk #[_]) _) _) _ _ _); k_dflt (first | (refine' eq_is (b := true) ?qqe ?_; (case qqe => walk_at "m_ch1")) | (refine' eq_is (b := false) ?qqe ?_; (case qqe => walk_at "m_ch0"))))
  k_with "compareOp NotEq str str" => (k_here; (with_reducible show wpAny _ _ (compareOp _ (Value.str (Str.mk #[_]) _) _) _ _ _); k_dflt (first | (refine' ne_is (b := true) ?qqe ?_; (case qqe => walk_at "m_ch1")) | (refine' ne_is (b := false) ?qqe ?_; (case qqe => walk_at "m_ch0"))))
  k_with "compareOp NotIn str ref" => (k_here; k_dflt (refine' notinL ?qqN ?qqm ?qqi ?qqv ?_; (case qqN => k_asm); (case qqm => k_mem); (case qqi => exact .cons _ _ (.cons _ _ (.cons _ _ .nil))); (case qqv => exact nb_any (by assumption) (by omega)); k_whole))
  k_with "ktr_rel" => (rw [sizeLine_eq]; (try simp only [PySem.Str.length_append, len1c, len_nl]); omega)
  k_with "inplaceOp Add str str" => (k_here; (refine PyProof.Rows.iadd_str (hsz := ?qqhsz) ?_); (case qqhsz => (walk_at "ktr_rel")); intro _ _)
  k_with "KswPost" => (refine held_off ?_)
  k_with "call builtin:len" => (k_here; (with_reducible show wpAny _ _ (call (Value.builtin "len") [Value.str _ _]) _ _ _); (fail_if_success (with_reducible show wpAny _ _ (call (Value.builtin "len") [Value.str (PySem.Str.ofString _) _]) _ _ _)); k_dflt (refine PySem.P.len_str (by omega) ?_))
  k_with "compareOp In str str" => (k_here; (with_reducible show wpAny _ _ (compareOp _ (Value.str (Str.mk #[_]) _) (Value.str (Str.ofString "0123456789") _)) _ _ _); k_dflt (first | (refine' in_is (b := true) ?qqe ?_; (case qqe => exact ⟨fun _ => by assumption, fun _ => rfl⟩)) | (refine' in_is (b := false) ?qqe ?_; (case qqe => exact ⟨fun h => (nomatch h), fun h => absurd h (by assumption)⟩))))
  k_with "call builtin:str.find" => (k_here; k_dflt (refine' find_ch ?qqhc ?_; (case qqhc => assumption); k_whole))
  k_with "call ref" => (k_here; k_dflt ((with_reducible show wpAny _ _ (call (Value.ref 115) _ _) _ _ _); (with_reducible rename ReadAll _ _ _ _ => ih'); refine' row_call (ih' _ _ ?qqhdi _ _ _ _ _ ?qqhw ?qqhp ?qqha) ?qqB ?qqF ?qqX ?qqN ?qqT ?qqhk ?qqhd ?qqhu ?qqhm ?qqhR ?qqsub ?_; (case qqha => assumption); (case qqhdi => assumption); (case qqhw => assumption); (case qqhp => assumption); (case qqB => k_asm); (case qqF => k_asm); (case qqX => k_asm); (case qqN => k_asm); (case qqT => k_asm); (case qqhk => exact rfl); (case qqhd => ktr_room); (case qqhu => ktr_units); (case qqhR => with_reducible assumption); (case qqhm => k_mem); (case qqsub => (intro p hp; (walk_at "tb_rel"))); k_whole; intro a' v' t' c' tl' h' tk' F' N' off' up' hma' hbd'; (try k_sweep)))
  k_with "call builtin:list.append" => (k_here; k_dflt (refine' appendP ?qqF ?qqN ?qqm ?qqR ?qqsub ?qqz ?_; (case qqF => k_asm); (case qqN => k_asm); (case qqR => with_reducible assumption); (case qqm => k_mem); (case qqsub => (intro p hp; (walk_at "tb_rel"))); (case qqz => omega); k_whole; intro h' F' N'; (try k_sweep)))
  k_with "compareOp NotEq ref ref" => (k_here; k_dflt (refine' ne_nil ?qqN ?qqm1 ?qqm2 ?qqb ?qqsub ?qqok ?qqdep ?qqhu ?qqe ?_; (case qqN => k_asm); (case qqb => assumption); (case qqm1 => k_mem); (case qqm2 => k_mem); (case qqsub => (intro p hp; repeat (first | exact List.mem_append_left _ hp | apply List.Mem.tail))); (case qqok => assumption); (case qqdep => assumption); (case qqhu => ktr_units); (case qqe => first | exact (by assumption : true = _) | exact (by assumption : false = _)); k_whole))
  k_with "call builtin:len" => (k_here; (with_reducible show wpAny _ _ (call (Value.builtin "len") [Value.ref _]) _ _ _); k_dflt (refine' lenL ?qqN ?qqm ?qqe ?qqz ?_; (case qqN => k_asm); (case qqm => k_mem); (case qqe => first | assumption | exact len_snoc (by assumption)); (case qqz => omega); k_whole))
  k_with "subscriptTail Name Constant ref int" => (k_here; k_dflt (first
  | ((with_reducible show wpAny _ _ (subscriptTail _ _ (Value.ref _) (Value.int 0 _)) _ _ _); refine' found0 ?qqN ?qqm ?_ ?qqa ?qqb; (case qqN => k_asm); (case qqm => k_mem); (case qqa => with_unfolding_all rfl); (case qqb => (intro _; with_unfolding_all rfl)); k_whole)
  | ((with_reducible show wpAny _ _ (subscriptTail _ _ (Value.ref _) (Value.int 1 _)) _ _ _); refine' found1 ?qqN ?qqm ?_ ?qqa ?qqb; (case qqN => k_asm); (case qqm => k_mem); (case qqa => with_unfolding_all rfl); (case qqb => (intro _; with_unfolding_all rfl)); k_whole)))
  k_with "call type:tuple" => (k_here; (with_reducible show wpAny _ _ (call (Value.type _) [Value.ref _]) _ _ _); k_dflt (refine' kde_tupleOf ?qqk1 ?qqk2 ?qqk3 ?qqk4 ?qqk5 ?_; (case qqk1 => k_asm); (case qqk2 => k_asm); (case qqk3 => exact News.isList (by k_asm) (by k_mem)); (case qqk4 => (simp only [List.size_toArray, List.length_append, List.length_cons, List.length_nil]; omega)); (case qqk5 => exact rfl); k_whole); intro D' h' F' N' qql1; (try k_lt qql1); (try k_sweep))
  trivial
theorem post_pc (r : List PyData) (post : List Nat) : ∀ c r', sepC r ++ 41 :: post = c :: r' → ¬ isDg c := by
  intro c r' e
  cases r with
  | nil => simp [sepC] at e; unfold isDg; omega
  | cons d r => simp [sepC] at e; unfold isDg; omega
theorem row_tuple {w : World} {ds : List PyData} {D U : Nat} (IH : ReadAll w ds D U) {words : Str} {n : Int} {k k2 : Tok} {post : List Nat} (hw : words.length ≤ 100000) (ok : OkAll ds) (dep : PyData.depthAll ds ≤ 50) (hlen : ds.length ≤ 1000) (hU : 200 ≤ U) (hl1 : ds.length ≠ 1) (ha : AtR words n (40 :: (joinC ds ++ 41 :: post))) :
   C3 w 108 (D + 3) (U + 10) [.str words k, .int n k2] [] (fun _ => True) (RdOut (.tuple ds) (n + ((shC (.tuple ds)).length : Nat))) := by
  unfold C3 Callee
  k_fill
  intro loose mean mg mb dp un cn cs a ccd cl outer A₀ base h₀ L m news s Q E B F X N T hk hrel hd9 hu9 hret
  refine wpAny_call ?_
  k_dflt ktr_enter
  k_steps
  (rename Fr _ _ _ _ => lF); (rename News _ _ _ _ => lN); (rename (∀ p ∈ news, p.1 < _) => l1)
  unfold Held
  refine' row_while (ds := ds) (cl := 41 :: post) (fun _ => True) trivial lF lN l1 ?hat ?ha0 ?turn ?po
  case hat => rfl
  case ha0 => exact ha.step
  case po => passes_own
  case turn =>
    intro c u h tk hc F9 N9
    clear lF lN
    have hi := hc.2.1
    have hat := hc.2.2.1
    have hvl := hc.2.2.2.1
    have hbd := hc.2.2.2.2.1
    have hoff := hc.2.2.2.2.2.1
    have hup := hc.2.2.2.2.2.2
    have okt : OkAll (ds.take c.i) := OkAll.take _ ok
    have dept : PyData.depthAll (ds.take c.i) ≤ 60 := Nat.le_trans (depth_take _ _) (by omega)
    rcases Nat.lt_or_ge c.i ds.length with hlt | hge
    · have hd : ds[c.i]? = some ds[c.i] := List.getElem?_eq_getElem hlt
      generalize ds[c.i] = d at hd
      refine shC_elim (OkAll.get ok hd) fun c0 r0 e0 n1 n2 n3 => ?_
      have hdr : ds.drop c.i = d :: ds.drop (c.i + 1) := by rw [List.drop_eq_getElem_cons hlt]; congr 1; rw [List.getElem?_eq_getElem hlt] at hd; exact Option.some.inj hd
      have hpost := post_pc (ds.drop (c.i + 1)) post
      by_cases hz : c.i = 0
      · have hat1 : AtR words c.pos (shC d ++ (sepC (ds.drop (c.i + 1)) ++ 41 :: post)) := by
          unfold rowRest at hat
          rw [if_pos hz] at hat
          have e : ds = d :: ds.drop (c.i + 1) := by rw [← hdr, hz, List.drop_zero]
          rw [e] at hat
          simpa [joinC] using hat
        have hat2 : AtR words c.pos (c0 :: (r0 ++ (sepC (ds.drop (c.i + 1)) ++ 41 :: post))) := by rw [e0] at hat1; exact hat1
        have hl2 := hat2.lt
        have hat3 := hat1.skip
        have hne : false = !(ds.take c.i).isEmpty := by rw [hz]; rfl
        have hat4 : ∃ X, AtR words (c.pos + ((shC d).length : Nat)) (44 :: 32 :: X) := by
          cases e : ds.drop (c.i + 1) with
          | nil => have := congrArg List.length e; simp at this; omega
          | cons d2 r2 => rw [e] at hat3; exact ⟨_, by simpa [sepC] using hat3⟩
        obtain ⟨X4, hat4⟩ := hat4
        k_steps
        all_goals try (exfalso; omega)
        unfold Held
        refine' row_end (c := c) (d := d) ?F ?N ?hm ?sub hc hd ?bd ?off ?up ?ha trivial ?hat ?hr
        case F => k_asm
        case N => k_asm
        case bd => assumption
        case hm => k_mem
        case off => assumption
        case up => assumption
        case sub => (intro p hp; (walk_at "tb_rel"))
        case hat => rfl
        case ha => simpa [rowRest] using hat3
        case hr => (intro z h1 h2; (have h3 : z ≠ Str.ofString "found" := by intro e9; subst e9; exact absurd h2 (by decide +kernel)); simp [kstB, h1, h3])
      · have hat1 : AtR words c.pos (44 :: 32 :: (shC d ++ (sepC (ds.drop (c.i + 1)) ++ 41 :: post))) := by
          unfold rowRest at hat
          rw [if_neg hz, hdr] at hat
          simpa [sepC] using hat
        have hl2 := hat1.lt
        have hat2 : AtR words (c.pos + 2) (shC d ++ (sepC (ds.drop (c.i + 1)) ++ 41 :: post)) := hat1.skip (p := [44, 32])
        have hat3 := hat2.skip
        have hne : true = !(ds.take c.i).isEmpty := by
          obtain ⟨j, hj⟩ : ∃ j, c.i = j + 1 := ⟨c.i - 1, by omega⟩
          cases ds with
          | nil => simp at hlt
          | cons x xs => rw [hj]; rfl
        k_steps
        all_goals try (exfalso; omega)
        unfold Held
        refine' row_end (c := c) (d := d) ?F ?N ?hm ?sub hc hd ?bd ?off ?up ?ha trivial ?hat ?hr
        case F => k_asm
        case N => k_asm
        case bd => assumption
        case hm => k_mem
        case off => assumption
        case up => assumption
        case sub => (intro p hp; (walk_at "tb_rel"))
        case hat => rfl
        case ha => simpa [rowRest] using hat3
        case hr => (intro z h1 h2; (have h3 : z ≠ Str.ofString "found" := by intro e9; subst e9; exact absurd h2 (by decide +kernel)); simp [kstB, h1, h3])
    · have hie : c.i = ds.length := by omega
      have hat1 : AtR words c.pos (41 :: post) := by
        unfold rowRest at hat
        by_cases hz : c.i = 0
        · have e : ds = [] := List.length_eq_zero_iff.mp (by omega)
          rw [if_pos hz, e] at hat
          simpa [joinC] using hat
        · rw [if_neg hz, List.drop_of_length_le (by omega)] at hat
          simpa [sepC] using hat
      have hl2 := hat1.lt
      rw [List.take_of_length_le (by omega)] at hbd
      have he : c.pos + 1 = n + ((shC (.tuple ds)).length : Nat) := by
        have e1 := hat1.2.1
        have e2 := ha.2.1
        rw [shC_tuple, if_neg hl1]
        simp only [List.length_cons, List.length_append, List.length_nil] at *
        omega
      rw [← he] at hret
      k_steps
      all_goals try (exfalso; omega)
      (rename Fr _ _ _ _ => lF'); (rename News _ _ _ _ => lN'); (rename (_ < _ ∧ AllLt _ (c.more ++ news)) => lT)
      refine' row_ret (more := c.more) hret lF' lN' ?hm ?hP ?sub ?l1 ?l2 ?l3 ?bd
      case hm => k_mem
      case hP => k_mem
      case sub => (intro p hp; (walk_at "tb_rel"))
      case l1 => exact fun p hp => tb_ltOf (And.right (And.right (by assumption))) p (List.mem_append_right _ hp)
      case l2 => exact fun p hp => tb_ltOf lT.2 p (List.mem_append_right _ hp)
      case l3 => exact fun p hp q hq => Nat.lt_trans (l1 q hq) (hup p hp)
      case bd => (simp only [Bd]; exact ⟨_, c.vs, _, rfl, List.Mem.head _, BdAll.mono (fun p hp => List.Mem.tail _ hp) hbd⟩)
end Mine
end
section

open PySem PySem.W PyProof.Rows PySem.Calls PySem.Spec
namespace Mine
theorem kw_S7 : True := by
  k_with_none
  trivial
theorem kw_S7_18 : True := by
  k_with "ktr_room" => (simp only [depth_under_make, depth_under_kw, depth_in1, depth_deeper, depth_caller, ktrTop]; omega)
  k_with "ktr_units" => (simp only [units_in1, units_deeper, Around.mark_units, units_caller, ktrTop]; omega)
  k_with "k_room" => ktr_room
  k_with "k_units" => ktr_units
  k_with "tb_rel" => (repeat (first | assumption | apply List.Mem.tail))
  k_with "k_all" => (first | refine allBelow (by assumption) ?_ | refine allBelow (tb_ltOf (by assumption)) ?_); (try dsimp only); omega
  k_with "k_mem" => first | exact List.Mem.head _ | assumption | (refine' List.Mem.tail _ ?_; k_mem)
  trivial
set_option maxRecDepth 100000
set_option maxHeartbeats 1000000

theorem kw_S7_19 : True := by
  k_with "m_enterC" => (refine' code_defC ?qqk1 ?qqk2 ?qqk3 ?qqk4 ?qqk5 ?qqkA ?qqkF ?qqkK ?qqk6 ?qqk7 ?qqk8 ?qqk9 ?qqkB ?qqkD ?_ ?qqc2 ?qqc3 ?qqc4; (case qqkA => exact rfl); (case qqkF => exact rfl); (case qqkK => assumption); (case qqk1 => k_asm); (case qqk2 => k_asm); (case qqk3 => k_asm); (case qqk4 => k_asm); (case qqk5 => k_asm); (case qqk6 => k_is); (case qqk7 => k_is); (case qqk8 => ktr_room); (case qqk9 => exact BindsTo.of_eq rfl); (case qqkB => exact rfl); (case qqkD => decide +kernel); (case qqc2 => exact rfl); (case qqc3 => exact rfl); (case qqc4 => exact rfl); k_whole; intro g' L' h' tk' cells' FG' F' N' Y' B' X' T' qql1; k_cells Y'; (try simp only [List.cons_append, List.nil_append] at N'); (try dsimp only); (try k_fold))
  k_with "exec For" => (k_here; refine wpAny_For ?_ (fun _ => rfl))
  k_with "exec For Tuple List cons nil" => (k_here; refine wpAny_For ?_ (fun _ => rfl))
  k_with "spliced" => (k_here; first | refine args_cons ?_ | (refine args_nil ?_; try dsimp only [List.cons_append, List.nil_append]))
  k_with "m_lit" => first | exact lt_None | exact lt_True | exact lt_False | exact lt_q | exact lt_d | exact lt_po | exact lt_pc | exact lt_bo | exact lt_bc | exact lt_cs | exact lt_cp | exact lt_mi | exact lt_ze | exact lt_nl | exact lt_bs | exact lt_n | exact lt_one _
  k_with "m_yes" => (refine' sl_yes ?qqha ?qqhk ?qqhl ?qqhe; (case qqhl => walk_at "m_lit"); (case qqha => assumption); (case qqhk => decide); (case qqhe => rfl))
  k_with "m_no" => first
  | (refine' sl_no ?qqha ?qqhk ?qqhl ?qqhc; (case qqhl => walk_at "m_lit"); (case qqha => assumption); (case qqhk => decide); (case qqhc => first | assumption | omega))
  | (refine' sl_no2 ?qqha ?qqhk ?qqhl ?qqhc; (case qqhl => walk_at "m_lit"); (case qqha => assumption); (case qqhk => decide); (case qqhc => first | assumption | omega))
  | (refine' sl_end ?qqha ?qqhk ?qqhl; (case qqhl => walk_at "m_lit"); (case qqha => assumption); (case qqhk => decide))
  k_with "compareOp Eq str str" => (k_here; (with_reducible show wpAny _ _ (compareOp _ (Value.str (Txt.slice _ _ _) _) _) _ _ _); k_dflt (first | (refine' eq_is (b := true) ?qqe ?_; (case qqe => walk_at "m_yes")) | (refine' eq_is (b := false) ?qqe ?_; (case qqe => walk_at "m_no"))))
  k_with "compareOp NotEq str str" => (k_here; (with_reducible show wpAny _ _ (compareOp _ (Value.str (Txt.slice _ _ _) _) _) _ _ _); k_dflt (first | (refine' ne_is (b := true) ?qqe ?_; (case qqe => walk_at "m_yes")) | (refine' ne_is (b := false) ?qqe ?_; (case qqe => walk_at "m_no"))))
  k_with "m_turn2" => (refine' list2_turn ?qqF ?qqN ?qqhI ?qqh1 ?qqh2 ?qqhm ?qqhg; (case qqF => k_asm); (case qqN => k_asm); (case qqhI => assumption); (case qqh1 => k_mem); (case qqh2 => (intro p hp; (walk_at "tb_rel"))); (case qqhm => (intro z h1 h2; simp only [if_neg h1, if_neg h2])); (case qqhg => decide))
  k_with "m_lt" => first | assumption | exact tb_ltOf (by assumption) | exact tb_ltOf (And.right (by assumption)) | exact tb_ltOf (And.right (And.right (by assumption))) | exact tb_ltOf (And.right (And.right (And.right (by assumption)))) | exact tb_ltOf (And.right (And.right (And.right (And.right (by assumption))))) | exact tb_ltOf (And.right (And.right (And.right (And.right (And.right (by assumption)))))) | exact tb_ltOf (And.right (And.right (And.right (And.right (And.right (And.right (by assumption))))))) | exact tb_ltOf (And.right (And.right (And.right (And.right (And.right (And.right (And.right (by assumption)))))))) | exact tb_ltOf (And.right (And.right (And.right (And.right (And.right (And.right (And.right (And.right (by assumption)))))))))
  k_with "m_ret1" => ((rename Fr _ _ _ _ => lF'); (rename News _ _ _ _ => lN'); (refine' rd_ret1 ?qqhret lF' lN' ?qqhm ?qqhs ?qqab ?_; (case qqhret => assumption); (case qqhm => k_mem); (case qqhs => (intro p hp; (walk_at "tb_rel"))); (case qqab => walk_at "m_lt")))
  k_with "subscriptTail Name Name str int" => (k_here; (with_reducible show wpAny _ _ (subscriptTail _ _ (Value.str _ _) (Value.int _ _)) _ _ _); k_dflt (refine' item_at ?qqha ?qqhw ?_ ?qqhs ?qqht; (case qqha => assumption); (case qqhw => assumption); (case qqhs => with_unfolding_all rfl); (case qqht => (intro _; with_unfolding_all rfl)); k_whole))
  k_with "exec While BoolOp cons nil" => (k_here; refine held_off ?_)
  k_with "exec While Compare cons nil" => (k_here; refine held_off ?_)
  k_with "m_ne" => first | assumption | omega
  k_with "m_ch1" => (refine' ch_yes ?qqhl ?qqhc; (case qqhl => walk_at "m_lit"); (case qqhc => first | rfl | omega))
  k_with "m_ch0" => (refine' ch_no ?qqhl ?qqhc; (case qqhl => walk_at "m_lit"); (case qqhc => walk_at "m_ne"))
  k_with "compareOp Eq str str" => (k_here; (with_reducible show wpAny _ _ (compareOp _ (Value.str (Str.mk #[_]) _) _) _ _ _); k_dflt (first | (refine' eq_is (b := true) ?qqe ?_; (case qqe => walk_at "m_ch1")) | (refine' eq_is (b := false) ?qqe ?_; (case qqe => walk_at "m_ch0"))))
  k_with "compareOp NotEq str str" => (k_here; (with_reducible show wpAny _ _ (compareOp _ (Value.str (Str.mk #[_]) _) _) _ _ _); k_dflt (first | (refine' ne_is (b := true) ?qqe ?_; (case qqe => walk_at "m_ch1")) | (refine' ne_is (b := false) ?qqe ?_; (case qqe => walk_at "m_ch0"))))
  k_with "compareOp NotIn str ref" => (k_here; k_dflt (refine' notinL ?qqN ?qqm ?qqi ?qqv ?_; (case qqN => k_asm); (case qqm => k_mem); (case qqi => exact .cons _ _ (.cons _ _ (.cons _ _ .nil))); (case qqv => exact nb_any (by assumption) (by omega)); k_whole))
  k_with "ktr_rel" => (rw [sizeLine_eq]; (try simp only [PySem.Str.length_append, len1c, len_nl]); omega)
  k_with "inplaceOp Add str str" => (k_here; (refine PyProof.Rows.iadd_str (hsz := ?qqhsz) ?_); (case qqhsz => (walk_at "ktr_rel")); intro _ _)
  k_with "KswPost" => (refine held_off ?_)
  k_with "call builtin:len" => (k_here; (with_reducible show wpAny _ _ (call (Value.builtin "len") [Value.str _ _]) _ _ _); (fail_if_success (with_reducible show wpAny _ _ (call (Value.builtin "len") [Value.str (PySem.Str.ofString _) _]) _ _ _)); k_dflt (refine PySem.P.len_str (by omega) ?_))
  k_with "compareOp In str str" => (k_here; (with_reducible show wpAny _ _ (compareOp _ (Value.str (Str.mk #[_]) _) (Value.str (Str.ofString "0123456789") _)) _ _ _); k_dflt (first | (refine' in_is (b := true) ?qqe ?_; (case qqe => exact ⟨fun _ => by assumption, fun _ => rfl⟩)) | (refine' in_is (b := false) ?qqe ?_; (case qqe => exact ⟨fun h => (nomatch h), fun h => absurd h (by assumption)⟩))))
  k_with "call builtin:str.find" => (k_here; k_dflt (refine' find_ch ?qqhc ?_; (case qqhc => assumption); k_whole))
  k_with "call ref" => (k_here; k_dflt ((with_reducible show wpAny _ _ (call (Value.ref 115) _ _) _ _ _); (with_reducible rename ReadAll _ _ _ _ => ih'); refine' row_call (ih' _ _ ?qqhdi _ _ _ _ _ ?qqhw ?qqhp ?qqha) ?qqB ?qqF ?qqX ?qqN ?qqT ?qqhk ?qqhd ?qqhu ?qqhm ?qqhR ?qqsub ?_; (case qqha => assumption); (case qqhdi => assumption); (case qqhw => assumption); (case qqhp => assumption); (case qqB => k_asm); (case qqF => k_asm); (case qqX => k_asm); (case qqN => k_asm); (case qqT => k_asm); (case qqhk => exact rfl); (case qqhd => ktr_room); (case qqhu => ktr_units); (case qqhR => with_reducible assumption); (case qqhm => k_mem); (case qqsub => (intro p hp; (walk_at "tb_rel"))); k_whole; intro a' v' t' c' tl' h' tk' F' N' off' up' hma' hbd'; (try k_sweep)))
  k_with "call builtin:list.append" => (k_here; k_dflt (refine' appendP ?qqF ?qqN ?qqm ?qqR ?qqsub ?qqz ?_; (case qqF => k_asm); (case qqN => k_asm); (case qqR => with_reducible assumption); (case qqm => k_mem); (case qqsub => (intro p hp; (walk_at "tb_rel"))); (case qqz => omega); k_whole; intro h' F' N'; (try k_sweep)))
  k_with "compareOp NotEq ref ref" => (k_here; k_dflt (refine' ne_nil ?qqN ?qqm1 ?qqm2 ?qqb ?qqsub ?qqok ?qqdep ?qqhu ?qqe ?_; (case qqN => k_asm); (case qqb => assumption); (case qqm1 => k_mem); (case qqm2 => k_mem); (case qqsub => (intro p hp; repeat (first | exact List.mem_append_left _ hp | apply List.Mem.tail))); (case qqok => assumption); (case qqdep => assumption); (case qqhu => ktr_units); (case qqe => first | exact (by assumption : true = _) | exact (by assumption : false = _)); k_whole))
  k_with "call builtin:len" => (k_here; (with_reducible show wpAny _ _ (call (Value.builtin "len") [Value.ref _]) _ _ _); k_dflt (refine' lenL ?qqN ?qqm ?qqe ?qqz ?_; (case qqN => k_asm); (case qqm => k_mem); (case qqe => first | assumption | exact len_snoc (by assumption)); (case qqz => omega); k_whole))
  k_with "subscriptTail Name Constant ref int" => (k_here; k_dflt (first
  | ((with_reducible show wpAny _ _ (subscriptTail _ _ (Value.ref _) (Value.int 0 _)) _ _ _); refine' found0 ?qqN ?qqm ?_ ?qqa ?qqb; (case qqN => k_asm); (case qqm => k_mem); (case qqa => with_unfolding_all rfl); (case qqb => (intro _; with_unfolding_all rfl)); k_whole)
  | ((with_reducible show wpAny _ _ (subscriptTail _ _ (Value.ref _) (Value.int 1 _)) _ _ _); refine' found1 ?qqN ?qqm ?_ ?qqa ?qqb; (case qqN => k_asm); (case qqm => k_mem); (case qqa => with_unfolding_all rfl); (case qqb => (intro _; with_unfolding_all rfl)); k_whole)))
  k_with "call type:tuple" => (k_here; (with_reducible show wpAny _ _ (call (Value.type _) [Value.ref _]) _ _ _); k_dflt (refine' kde_tupleOf ?qqk1 ?qqk2 ?qqk3 ?qqk4 ?qqk5 ?_; (case qqk1 => k_asm); (case qqk2 => k_asm); (case qqk3 => exact News.isList (by k_asm) (by k_mem)); (case qqk4 => (simp only [List.size_toArray, List.length_append, List.length_cons, List.length_nil]; omega)); (case qqk5 => exact rfl); k_whole); intro D' h' F' N' qql1; (try k_lt qql1); (try k_sweep))
  trivial
theorem row_tuple1 {w : World} {d : PyData} {D U : Nat} (IH : ReadAll w [d] D U) {words : Str} {n : Int} {k k2 : Tok} {post : List Nat} (hw : words.length ≤ 100000) (ok : OkD d) (hU : 200 ≤ U) (ha : AtR words n (40 :: (shC d ++ 44 :: 41 :: post))) :
   C3 w 108 (D + 3) (U + 10) [.str words k, .int n k2] [] (fun _ => True) (RdOut (.tuple [d]) (n + ((shC (.tuple [d])).length : Nat))) := by
  unfold C3 Callee
  k_fill
  intro loose mean mg mb dp un cn cs a ccd cl outer A₀ base h₀ L m news s Q E B F X N T hk hrel hd9 hu9 hret
  refine wpAny_call ?_
  k_dflt ktr_enter
  k_steps
  (rename Fr _ _ _ _ => lF); (rename News _ _ _ _ => lN); (rename (∀ p ∈ news, p.1 < _) => l1)
  unfold Held
  refine' row_while (ds := [d]) (cl := 44 :: 41 :: post) (fun i => i = 0) rfl lF lN l1 ?hat ?ha0 ?turn ?po
  case hat => rfl
  case ha0 => (have h9 := ha.step; simpa [rowRest, joinC, sepC] using h9)
  case po => passes_own
  case turn =>
    intro c u h tk hc F9 N9
    clear lF lN
    have hz := hc.1
    have hi := hc.2.1
    have hat := hc.2.2.1
    have hvl := hc.2.2.2.1
    have hbd := hc.2.2.2.2.1
    have hoff := hc.2.2.2.2.2.1
    have hup := hc.2.2.2.2.2.2
    rw [hz] at hvl
    have hvs : c.vs = [] := List.length_eq_zero_iff.mp hvl
    have okt : OkAll (([d] : List PyData).take c.i) := by rw [hz]; simp [OkAll]
    have dept : PyData.depthAll (([d] : List PyData).take c.i) ≤ 60 := by rw [hz]; simp [PyData.depthAll]
    have hd : ([d] : List PyData)[c.i]? = some d := by rw [hz]; rfl
    refine shC_elim ok fun c0 r0 e0 n1 n2 n3 => ?_
    have hpost : ∀ c r', (44 :: 41 :: post : List Nat) = c :: r' → ¬ isDg c := by intro c r' e; cases e; unfold isDg; omega
    have hat1 : AtR words c.pos (shC d ++ 44 :: 41 :: post) := by
      unfold rowRest at hat
      rw [if_pos hz] at hat
      simpa [joinC, sepC] using hat
    have hat2 : AtR words c.pos (c0 :: (r0 ++ 44 :: 41 :: post)) := by rw [e0] at hat1; exact hat1
    have hl2 := hat2.lt
    have hat3 := hat1.skip
    have hne : false = !(([d] : List PyData).take c.i).isEmpty := by rw [hz]; rfl
    have he : c.pos + ((shC d).length : Nat) + 2 = n + ((shC (.tuple [d])).length : Nat) := by
      have e1 := hat3.2.1
      have e2 := ha.2.1
      have e3 : shC (.tuple [d]) = 40 :: (shC d ++ [44, 41]) := by rw [shC_tuple]; simp [joinC, sepC]
      rw [e3]
      simp only [List.append_nil, List.length_cons, List.length_append, List.length_nil] at *
      omega
    rw [← he] at hret
    k_steps
    all_goals try (exfalso; omega)
    unfold Held
    dsimp only [KswPost]
    k_steps
    (rename Fr _ _ _ _ => lF'); (rename News _ _ _ _ => lN'); (rename Bd _ d _ => hbd9); (rename (_ < _ ∧ AllLt _ (_ ++ (c.more ++ news))) => lT); (rename (∀ p : Addr × Obj, p ∈ _ → _ < p.1) => up9)
    refine' row_ret hret lF' lN' ?hm ?hP ?sub ?l1 ?l2 ?l3 ?bd
    case hm => k_mem
    case hP => k_mem
    case bd => (simp only [Bd, BdAll]; refine ⟨_, _, _, rfl, List.Mem.head _, _, _, by rw [hvs]; rfl, Bd.mono (fun p hp => List.Mem.tail _ hp) hbd9, rfl⟩)
    case sub => (intro p hp; rcases List.mem_append.mp hp with hp | hp <;> (repeat (first | exact List.mem_append_left _ hp | exact List.mem_append_right _ (List.mem_append_right _ hp) | apply List.Mem.tail)))
    case l1 => exact fun p hp => tb_ltOf (And.right (And.right (by assumption))) p (List.mem_append_right _ (List.mem_append_right _ hp))
    case l2 => exact fun p hp => tb_ltOf lT.2 p (List.mem_append_right _ (List.mem_append_right _ hp))
    case l3 => exact fun p hp q hq => Nat.lt_trans (l1 q hq) (up9 p hp)
end Mine
end
section

open PySem PySem.W PyProof.Rows PySem.Calls PySem.Spec
namespace Mine
theorem kw_S8 : True := by
  k_with_none
  trivial
theorem kw_S8_20 : True := by
  k_with "ktr_room" => (simp only [depth_under_make, depth_under_kw, depth_in1, depth_deeper, depth_caller, ktrTop]; omega)
  k_with "ktr_units" => (simp only [units_in1, units_deeper, Around.mark_units, units_caller, ktrTop]; omega)
  k_with "k_room" => ktr_room
  k_with "k_units" => ktr_units
  k_with "tb_rel" => (repeat (first | assumption | apply List.Mem.tail))
  k_with "k_all" => (first | refine allBelow (by assumption) ?_ | refine allBelow (tb_ltOf (by assumption)) ?_); (try dsimp only); omega
  k_with "k_mem" => first | exact List.Mem.head _ | assumption | (refine' List.Mem.tail _ ?_; k_mem)
  trivial
set_option maxRecDepth 100000
set_option maxHeartbeats 1000000

theorem kw_S8_21 : True := by
  k_with "m_enterC" => (refine' code_defC ?qqk1 ?qqk2 ?qqk3 ?qqk4 ?qqk5 ?qqkA ?qqkF ?qqkK ?qqk6 ?qqk7 ?qqk8 ?qqk9 ?qqkB ?qqkD ?_ ?qqc2 ?qqc3 ?qqc4; (case qqkA => exact rfl); (case qqkF => exact rfl); (case qqkK => assumption); (case qqk1 => k_asm); (case qqk2 => k_asm); (case qqk3 => k_asm); (case qqk4 => k_asm); (case qqk5 => k_asm); (case qqk6 => k_is); (case qqk7 => k_is); (case qqk8 => ktr_room); (case qqk9 => exact BindsTo.of_eq rfl); (case qqkB => exact rfl); (case qqkD => decide +kernel); (case qqc2 => exact rfl); (case qqc3 => exact rfl); (case qqc4 => exact rfl); k_whole; intro g' L' h' tk' cells' FG' F' N' Y' B' X' T' qql1; k_cells Y'; (try simp only [List.cons_append, List.nil_append] at N'); (try dsimp only); (try k_fold))
  k_with "exec For" => (k_here; refine wpAny_For ?_ (fun _ => rfl))
  k_with "exec For Tuple List cons nil" => (k_here; refine wpAny_For ?_ (fun _ => rfl))
  k_with "spliced" => (k_here; first | refine args_cons ?_ | (refine args_nil ?_; try dsimp only [List.cons_append, List.nil_append]))
  k_with "m_lit" => first | exact lt_None | exact lt_True | exact lt_False | exact lt_q | exact lt_d | exact lt_po | exact lt_pc | exact lt_bo | exact lt_bc | exact lt_cs | exact lt_cp | exact lt_mi | exact lt_ze | exact lt_nl | exact lt_bs | exact lt_n | exact lt_one _
  k_with "m_yes" => (refine' sl_yes ?qqha ?qqhk ?qqhl ?qqhe; (case qqhl => walk_at "m_lit"); (case qqha => assumption); (case qqhk => decide); (case qqhe => rfl))
  k_with "m_no" => first
  | (refine' sl_no ?qqha ?qqhk ?qqhl ?qqhc; (case qqhl => walk_at "m_lit"); (case qqha => assumption); (case qqhk => decide); (case qqhc => first | assumption | omega))
  | (refine' sl_no2 ?qqha ?qqhk ?qqhl ?qqhc; (case qqhl => walk_at "m_lit"); (case qqha => assumption); (case qqhk => decide); (case qqhc => first | assumption | omega))
  | (refine' sl_end ?qqha ?qqhk ?qqhl; (case qqhl => walk_at "m_lit"); (case qqha => assumption); (case qqhk => decide))
  k_with "compareOp Eq str str" => (k_here; (with_reducible show wpAny _ _ (compareOp _ (Value.str (Txt.slice _ _ _) _) _) _ _ _); k_dflt (first | (refine' eq_is (b := true) ?qqe ?_; (case qqe => walk_at "m_yes")) | (refine' eq_is (b := false) ?qqe ?_; (case qqe => walk_at "m_no"))))
  k_with "compareOp NotEq str str" => (k_here; (with_reducible show wpAny _ _ (compareOp _ (Value.str (Txt.slice _ _ _) _) _) _ _ _); k_dflt (first | (refine' ne_is (b := true) ?qqe ?_; (case qqe => walk_at "m_yes")) | (refine' ne_is (b := false) ?qqe ?_; (case qqe => walk_at "m_no"))))
  k_with "m_turn2" => (refine' list2_turn ?qqF ?qqN ?qqhI ?qqh1 ?qqh2 ?qqhm ?qqhg; (case qqF => k_asm); (case qqN => k_asm); (case qqhI => assumption); (case qqh1 => k_mem); (case qqh2 => (intro p hp; (walk_at "tb_rel"))); (case qqhm => (intro z h1 h2; simp only [if_neg h1, if_neg h2])); (case qqhg => decide))
  k_with "m_lt" => first | assumption | exact tb_ltOf (by assumption) | exact tb_ltOf (And.right (by assumption)) | exact tb_ltOf (And.right (And.right (by assumption))) | exact tb_ltOf (And.right (And.right (And.right (by assumption)))) | exact tb_ltOf (And.right (And.right (And.right (And.right (by assumption))))) | exact tb_ltOf (And.right (And.right (And.right (And.right (And.right (by assumption)))))) | exact tb_ltOf (And.right (And.right (And.right (And.right (And.right (And.right (by assumption))))))) | exact tb_ltOf (And.right (And.right (And.right (And.right (And.right (And.right (And.right (by assumption)))))))) | exact tb_ltOf (And.right (And.right (And.right (And.right (And.right (And.right (And.right (And.right (by assumption)))))))))
  k_with "m_ret1" => ((rename Fr _ _ _ _ => lF'); (rename News _ _ _ _ => lN'); (refine' rd_ret1 ?qqhret lF' lN' ?qqhm ?qqhs ?qqab ?_; (case qqhret => assumption); (case qqhm => k_mem); (case qqhs => (intro p hp; (walk_at "tb_rel"))); (case qqab => walk_at "m_lt")))
  k_with "subscriptTail Name Name str int" => (k_here; (with_reducible show wpAny _ _ (subscriptTail _ _ (Value.str _ _) (Value.int _ _)) _ _ _); k_dflt (refine' item_at ?qqha ?qqhw ?_ ?qqhs ?qqht; (case qqha => assumption); (case qqhw => assumption); (case qqhs => with_unfolding_all rfl); (case qqht => (intro _; with_unfolding_all rfl)); k_whole))
  k_with "exec While BoolOp cons nil" => (k_here; refine held_off ?_)
  k_with "exec While Compare cons nil" => (k_here; refine held_off ?_)
  k_with "m_ne" => first | assumption | omega
  k_with "m_ch1" => (refine' ch_yes ?qqhl ?qqhc; (case qqhl => walk_at "m_lit"); (case qqhc => first | rfl | omega))
  k_with "m_ch0" => (refine' ch_no ?qqhl ?qqhc; (case qqhl => walk_at "m_lit"); (case qqhc => walk_at "m_ne"))
  k_with "compareOp Eq str str" => (k_here; (with_reducible show wpAny _ _ (compareOp _ (Value.str (Str.mk #[_]) _) _) _ _ _); k_dflt (first | (refine' eq_is (b := true) ?qqe ?_; (case qqe => walk_at "m_ch1")) | (refine' eq_is (b := false) ?qqe ?_; (case qqe => walk_at "m_ch0"))))
  k_with "compareOp NotEq str str" => (k_here; (with_reducible show wpAny _ _ (compareOp _ (Value.str (Str.mk #[_]) _) _) _ _ _); k_dflt (first | (refine' ne_is (b := true) ?qqe ?_; (case qqe => walk_at "m_ch1")) | (refine' ne_is (b := false) ?qqe ?_; (case qqe => walk_at "m_ch0"))))
  k_with "compareOp NotIn str ref" => (k_here; k_dflt (refine' notinL ?qqN ?qqm ?qqi ?qqv ?_; (case qqN => k_asm); (case qqm => k_mem); (case qqi => exact .cons _ _ (.cons _ _ (.cons _ _ .nil))); (case qqv => exact nb_any (by assumption) (by omega)); k_whole))
  k_with "ktr_rel" => (rw [sizeLine_eq]; (try simp only [PySem.Str.length_append, len1c, len_nl]); omega)
  k_with "inplaceOp Add str str" => (k_here; (refine PyProof.Rows.iadd_str (hsz := ?qqhsz) ?_); (case qqhsz => (walk_at "ktr_rel")); intro _ _)
  k_with "KswPost" => (refine held_off ?_)
  k_with "call builtin:len" => (k_here; (with_reducible show wpAny _ _ (call (Value.builtin "len") [Value.str _ _]) _ _ _); (fail_if_success (with_reducible show wpAny _ _ (call (Value.builtin "len") [Value.str (PySem.Str.ofString _) _]) _ _ _)); k_dflt (refine PySem.P.len_str (by omega) ?_))
  k_with "compareOp In str str" => (k_here; (with_reducible show wpAny _ _ (compareOp _ (Value.str (Str.mk #[_]) _) (Value.str (Str.ofString "0123456789") _)) _ _ _); k_dflt (first | (refine' in_is (b := true) ?qqe ?_; (case qqe => exact ⟨fun _ => by assumption, fun _ => rfl⟩)) | (refine' in_is (b := false) ?qqe ?_; (case qqe => exact ⟨fun h => (nomatch h), fun h => absurd h (by assumption)⟩))))
  k_with "call builtin:str.find" => (k_here; k_dflt (refine' find_ch ?qqhc ?_; (case qqhc => assumption); k_whole))
  k_with "call ref" => (k_here; k_dflt ((with_reducible show wpAny _ _ (call (Value.ref _) [Value.str _ _, Value.int _ _] _) _ _ _); (with_reducible rename PassC _ _ _ _ _ _ _ _ => ih'); refine' callee_use (ih' _ _) ?qqB ?qqF ?qqX ?qqN ?qqT ?qqhk trivial ?qqhd ?qqhu ?_; (case qqB => k_asm); (case qqF => k_asm); (case qqX => k_asm); (case qqN => k_asm); (case qqT => k_asm); (case qqhk => exact rfl); (case qqhd => ktr_room); (case qqhu => ktr_units); k_whole; intro r' tl' h' tk' F' N' o1' o2'; (try k_sweep)))
  trivial
theorem read_pass_text {w : World} {words : Str} {n : Int} {k k2 : Tok} {q : Nat} {r : List Nat} {D U : Nat} {d : PyData} {e : Int} (hw : words.length ≤ 100000) (hq : q = 39 ∨ q = 34) (hU : 100 ≤ U) (C : PassC w 101 D U words n d e) (ha : AtR words n (q :: r)) :
   C3 w 115 (D + 3) (U + 10) [.str words k, .int n k2] [] (fun _ => True) (RdOut d e) := by
  unfold C3 Callee
  k_fill
  intro loose mean mg mb dp un cn cs a ccd cl outer A₀ base h₀ L m news s Q E B F X N T hk hrel hd9 hu9 hret
  refine wpAny_call ?_
  k_dflt ktr_enter
  k_steps
  (rename Fr _ _ _ _ => lF); (rename News _ _ _ _ => lN)
  refine' iter_list2 (x := Str.ofString "name") (y := Str.ofString "value") (fun i => True) trivial ?hh lF lN ?hm rfl ?turn ?done ?po ?hv
  case hh => rfl
  case po => passes_own
  case hm => k_mem
  case hv => (intro i v hv; rcases three_of hv with ⟨_, rfl⟩ | ⟨_, rfl⟩ | ⟨_, rfl⟩ <;> exact ⟨_, rfl⟩)
  case turn =>
    intro I i v h tk oI u1 u2 hv hi hI F9 N9
    clear lF lN
    rcases three_of hv with ⟨e0, rfl⟩ | ⟨e0, rfl⟩ | ⟨e0, rfl⟩
    all_goals k_steps
    all_goals walk_at "m_turn2"
  case done =>
    intro u1 u2 h tk hg F9 N9
    clear lF lN
    have hl0 := ha.lt
    rcases hq with rfl | rfl
    all_goals (dsimp only; k_steps)
    all_goals ((rename Fr _ _ _ _ => lF'); (rename News _ _ _ _ => lN'); (rename RdOut _ _ _ _ => ho9); (rename (∀ p : Addr × Obj, p ∈ _ → ∀ q : Addr × Obj, q ∈ _ → q.1 < p.1) => ab9))
    all_goals exact rd_pass hret lF' lN' ab9 ho9 (fun p hp => by (walk_at "tb_rel")) (fun p hp => by (rcases List.mem_append.mp hp with hp | hp <;> (repeat (first | exact List.mem_append_left _ hp | exact List.mem_append_right _ (by (walk_at "tb_rel")) | apply List.Mem.tail))))
theorem read_pass_row {w : World} {words : Str} {n : Int} {k k2 : Tok} {q : Nat} {r : List Nat} {D U : Nat} {d : PyData} {e : Int} (hw : words.length ≤ 100000) (hq : q = 40 ∨ q = 91) (hU : 100 ≤ U) (C : PassC w 108 D U words n d e) (ha : AtR words n (q :: r)) :
   C3 w 115 (D + 3) (U + 10) [.str words k, .int n k2] [] (fun _ => True) (RdOut d e) := by
  unfold C3 Callee
  k_fill
  intro loose mean mg mb dp un cn cs a ccd cl outer A₀ base h₀ L m news s Q E B F X N T hk hrel hd9 hu9 hret
  refine wpAny_call ?_
  k_dflt ktr_enter
  k_steps
  (rename Fr _ _ _ _ => lF); (rename News _ _ _ _ => lN)
  refine' iter_list2 (x := Str.ofString "name") (y := Str.ofString "value") (fun i => True) trivial ?hh lF lN ?hm rfl ?turn ?done ?po ?hv
  case hh => rfl
  case po => passes_own
  case hm => k_mem
  case hv => (intro i v hv; rcases three_of hv with ⟨_, rfl⟩ | ⟨_, rfl⟩ | ⟨_, rfl⟩ <;> exact ⟨_, rfl⟩)
  case turn =>
    intro I i v h tk oI u1 u2 hv hi hI F9 N9
    clear lF lN
    rcases three_of hv with ⟨e0, rfl⟩ | ⟨e0, rfl⟩ | ⟨e0, rfl⟩
    all_goals k_steps
    all_goals walk_at "m_turn2"
  case done =>
    intro u1 u2 h tk hg F9 N9
    clear lF lN
    have hl0 := ha.lt
    rcases hq with rfl | rfl
    all_goals (dsimp only; k_steps)
    all_goals ((rename Fr _ _ _ _ => lF'); (rename News _ _ _ _ => lN'); (rename RdOut _ _ _ _ => ho9); (rename (∀ p : Addr × Obj, p ∈ _ → ∀ q : Addr × Obj, q ∈ _ → q.1 < p.1) => ab9))
    all_goals exact rd_pass hret lF' lN' ab9 ho9 (fun p hp => by (walk_at "tb_rel")) (fun p hp => by (rcases List.mem_append.mp hp with hp | hp <;> (repeat (first | exact List.mem_append_left _ hp | exact List.mem_append_right _ (by (walk_at "tb_rel")) | apply List.Mem.tail))))
end Mine
end
theorem Mine.kw_R1 : True := by
  k_with_none
  trivial
section

open PySem PySem.W PyProof.Rows PySem.Calls PySem.Spec
set_option maxRecDepth 100000
set_option maxHeartbeats 400000
namespace Mine
theorem sepC_mem : ∀ {ds : List PyData} {e : PyData}, e ∈ ds → (shC e).length ≤ (sepC ds).length
  | d :: ds, e, h => by
    simp only [sepC, List.length_cons, List.length_append]
    rcases List.mem_cons.mp h with rfl | h
    · omega
    · have := sepC_mem h; omega
theorem joinC_mem {ds : List PyData} {e : PyData} (h : e ∈ ds) : (shC e).length ≤ (joinC ds).length := by
  cases ds with
  | nil => exact absurd h List.not_mem_nil
  | cons d ds =>
    simp only [joinC, List.length_append]
    rcases List.mem_cons.mp h with rfl | h
    · omega
    · have := sepC_mem h; omega
theorem sepC_len : ∀ (ds : List PyData), ds.length ≤ (sepC ds).length
  | [] => Nat.le_refl _
  | d :: ds => by have := sepC_len ds; simp only [sepC, List.length_cons, List.length_append]; omega
theorem joinC_len {ds : List PyData} (ok : OkAll ds) : ds.length ≤ (joinC ds).length := by
  cases ds with
  | nil => exact Nat.le_refl _
  | cons d ds =>
    simp only [OkAll] at ok
    obtain ⟨c, r, e, _⟩ := shC_first ok.1
    have := sepC_len ds
    simp only [joinC, List.length_cons, List.length_append, e]; omega
theorem list_len (ds : List PyData) : (shC (.list ds)).length = (joinC ds).length + 2 := by rw [shC_list]; simp
theorem tuple_len (ds : List PyData) : (joinC ds).length + 2 ≤ (shC (.tuple ds)).length := by rw [shC_tuple]; split <;> simp
theorem short_of : ∀ (n : Nat) (d : PyData), OkD d → d.depth ≤ n → (shC d).length ≤ 1000 → Short n d := by
  intro n
  induction n with
  | zero => intro d ok h _; simp only [Short]; omega
  | succ n ih =>
    intro d ok h hl ds hd
    have key : OkAll ds ∧ PyData.depthAll ds ≤ n ∧ (joinC ds).length ≤ 1000 := by
      rcases hd with rfl | rfl
      · simp only [OkD] at ok; simp only [PyData.depth] at h; rw [list_len] at hl; exact ⟨ok, by omega, by omega⟩
      · simp only [OkD] at ok; simp only [PyData.depth] at h; have := tuple_len ds; exact ⟨ok, by omega, by omega⟩
    obtain ⟨oka, hda, hla⟩ := key
    refine ⟨Nat.le_trans (joinC_len oka) hla, fun e he => ?_⟩
    obtain ⟨i, hi⟩ := List.getElem?_of_mem he
    exact ih e (OkAll.get oka hi) (Nat.le_trans (depth_get hi) hda) (Nat.le_trans (joinC_mem he) hla)
theorem same_ok {w : World} {d : PyData} (ok : OkD d) (hd : d.depth ≤ 40) (hl : (shC d).length ≤ 1000) (v1 v2 : Value) : C3 w 120 140 600 [v1, v2] [] (fun news => Bd news d v1 ∧ Bd news d v2) (fun tl r => tl = [] ∧ r = .bool true) :=
  callee_weaken (same_spec 40 d ok hd (short_of 40 d ok hd hl) v1 v2) (by decide) (by decide) (fun _ h => h)
theorem read_spec {w : World} : ∀ (m : Nat) (d : PyData), OkD d → d.depth ≤ m → d.depth ≤ 40 → (shC d).length ≤ 1000 → ∀ (words : Str) (n : Int) (post : List Nat) (k k2 : Tok), words.length ≤ 100000 → (∀ c r, post = c :: r → ¬ isDg c) → AtR words n (shC d ++ post) →
    C3 w 115 (6 * m + 20) (20 * m + 300) [.str words k, .int n k2] [] (fun _ => True) (RdOut d (n + ((shC d).length : Nat))) := by
  intro m
  induction m with
  | zero =>
    intro d ok hdep h40 hl words n post k k2 hw hp ha
    cases d with
    | none => rw [shC_none] at ha ⊢; exact callee_weaken (read_none hw ha) (by omega) (by omega) fun _ h => h
    | bool b =>
      cases b with
      | true => rw [shC_true] at ha ⊢; exact callee_weaken (read_true hw ha) (by omega) (by omega) fun _ h => h
      | false => rw [shC_false] at ha ⊢; exact callee_weaken (read_false hw ha) (by omega) (by omega) fun _ h => h
    | int i =>
      simp only [OkD] at ok
      by_cases h : 0 ≤ i
      · have hv := dg_val i.natAbs
        cases e : dg i.natAbs with
        | nil => exact absurd e (dg_ne _)
        | cons c0 ds =>
          have hd : ∀ c ∈ c0 :: ds, isDg c := by intro c hc; rw [← e] at hc; exact dg_digit _ c hc
          rw [e] at hv
          have hi : ((dval (c0 :: ds) : Nat) : Int) = i := by show ((List.foldl _ 0 (c0 :: ds) : Nat) : Int) = i; rw [hv]; omega
          have hlt : dval (c0 :: ds) < 1000000 := by show List.foldl _ 0 (c0 :: ds) < 1000000; rw [hv]; exact ok
          rw [shC_pos h, e] at ha ⊢
          have C := read_int_pos (w := w) (k := k) (k2 := k2) hw hd (fun hne => dg_zero e hne) hp hlt (by simpa using ha)
          rw [hi, Nat.zero_add] at C
          exact callee_weaken C (by omega) (by omega) fun _ h => h
      · have hv := dg_val i.natAbs
        cases e : dg i.natAbs with
        | nil => exact absurd e (dg_ne _)
        | cons c0 ds =>
          have hd : ∀ c ∈ c0 :: ds, isDg c := by intro c hc; rw [← e] at hc; exact dg_digit _ c hc
          have hz : c0 ≠ 48 := by have := dg_head i.natAbs (by omega); rw [e] at this; simpa using this
          rw [e] at hv
          have hi : -((dval (c0 :: ds) : Nat) : Int) = i := by show -((List.foldl _ 0 (c0 :: ds) : Nat) : Int) = i; rw [hv]; omega
          have hlt : dval (c0 :: ds) < 1000000 := by show List.foldl _ 0 (c0 :: ds) < 1000000; rw [hv]; exact ok
          rw [shC_neg (by omega), e] at ha ⊢
          have C := read_int_neg (w := w) (k := k) (k2 := k2) hw hd hz hp hlt (by simpa using ha)
          rw [hi] at C
          have e2 : (45 :: c0 :: ds).length = 1 + (c0 :: ds).length := by simp only [List.length_cons]; omega
          rw [e2]
          exact callee_weaken C (by omega) (by omega) fun _ h => h
    | str x =>
      simp only [OkD] at ok
      have ha' : AtR words n (reprQuote x :: (esc (reprQuote x) (sg x) ++ reprQuote x :: post)) := by rw [shC_str] at ha; simpa using ha
      have hq := quote_is x
      exact callee_weaken (read_pass_text (U := 100) hw hq.symm (by decide) (fun k k2 => callee_weaken (read_text (k := k) (k2 := k2) hw ok.1 (by omega) rfl ha') (Nat.le_refl _) (by decide) fun _ h => h) ha') (by omega) (by omega) fun _ h => h
    | list ds => simp only [PyData.depth] at hdep; omega
    | tuple ds => simp only [PyData.depth] at hdep; omega
    | dict _ => simp only [OkD] at ok
  | succ m ih =>
    intro d ok hdep h40 hl words n post k k2 hw hp ha
    by_cases hz : d.depth ≤ m
    · exact callee_weaken (ih d ok hz h40 hl words n post k k2 hw hp ha) (by omega) (by omega) fun _ h => h
    have all : ∀ ds, OkAll ds → PyData.depthAll ds ≤ m → PyData.depthAll ds ≤ 40 → (joinC ds).length ≤ 1000 → ReadAll w ds (6 * m + 20) (20 * m + 300) := by
      intro ds oka hda hdb hla i e hi words n post k k2 hw hp ha
      exact ih e (OkAll.get oka hi) (Nat.le_trans (depth_get hi) hda) (Nat.le_trans (depth_get hi) hdb) (Nat.le_trans (joinC_mem (List.mem_of_getElem? hi)) hla) words n post k k2 hw hp ha
    cases d with
    | none => simp only [PyData.depth] at hz; omega
    | bool b => simp only [PyData.depth] at hz; omega
    | int i => simp only [PyData.depth] at hz; omega
    | str x => simp only [PyData.depth] at hz; omega
    | list ds =>
      simp only [OkD] at ok
      simp only [PyData.depth] at hdep h40
      rw [list_len] at hl
      have IH := all ds ok (by omega) (by omega) (by omega)
      have hlen := joinC_len ok
      have ha' : AtR words n (91 :: (joinC ds ++ 93 :: post)) := by rw [shC_list] at ha; simpa using ha
      exact callee_weaken (read_pass_row hw (.inr rfl) (by omega) (fun k k2 => row_list (k := k) (k2 := k2) IH hw ok (by omega) (by omega) (by omega) ha') ha') (by omega) (by omega) fun _ h => h
    | tuple ds =>
      simp only [OkD] at ok
      simp only [PyData.depth] at hdep h40
      have hl2 := tuple_len ds
      have IH := all ds ok (by omega) (by omega) (by omega)
      have hlen := joinC_len ok
      by_cases h1 : ds.length = 1
      · obtain ⟨e, rfl⟩ : ∃ e, ds = [e] := by
          match ds, h1 with
          | [e], _ => exact ⟨e, rfl⟩
        simp only [OkAll] at ok
        have ha' : AtR words n (40 :: (shC e ++ 44 :: 41 :: post)) := by rw [shC_tuple, if_pos h1] at ha; simpa [joinC, sepC] using ha
        exact callee_weaken (read_pass_row hw (.inl rfl) (by omega) (fun k k2 => row_tuple1 (k := k) (k2 := k2) IH hw ok.1 (by omega) ha') ha') (by omega) (by omega) fun _ h => h
      · have ha' : AtR words n (40 :: (joinC ds ++ 41 :: post)) := by rw [shC_tuple, if_neg h1] at ha; simpa using ha
        exact callee_weaken (read_pass_row hw (.inl rfl) (by omega) (fun k k2 => row_tuple (k := k) (k2 := k2) IH hw ok (by omega) (by omega) (by omega) h1 ha') ha') (by omega) (by omega) fun _ h => h
    | dict _ => simp only [OkD] at ok
theorem read_ok {w : World} {d : PyData} (ok : OkD d) (hd : d.depth ≤ 40) (hl : (shC d).length ≤ 1000) {words : Str} {n : Int} {post : List Nat} {k k2 : Tok} (hw : words.length ≤ 100000) (hp : ∀ c r, post = c :: r → ¬ isDg c) (ha : AtR words n (shC d ++ post)) :
    C3 w 115 260 1100 [.str words k, .int n k2] [] (fun _ => True) (RdOut d (n + ((shC d).length : Nat))) := read_spec 40 d ok hd hd hl words n post k k2 hw hp ha
end Mine
end
section

open PySem PySem.W PyProof.Rows PySem.Calls PySem.Spec
set_option maxRecDepth 100000
set_option maxHeartbeats 400000
namespace Mine
noncomputable abbrev litT : Str := Str.ofString "a'\"\\\n{} "
theorem litT_sg : sg litT = [97, 39, 34, 92, 10, 123, 125, 32] := by decide +kernel
theorem litT_at {i : Int} (h0 : 0 ≤ i) (h1 : i < 8) : ∃ c, okSign c ∧ Txt.item litT i = ⟨#[c]⟩ := by
  have hb : (sg litT)[i.toNat]? = some ((sg litT)[i.toNat]'(by rw [litT_sg]; simp; omega)) := List.getElem?_eq_getElem _
  have hok : ∀ c ∈ sg litT, okSign c := by rw [litT_sg]; intro c hc; unfold okSign; simp at hc; omega
  generalize hc : (sg litT)[i.toNat]'(by rw [litT_sg]; simp; omega) = c at hb
  refine ⟨c, hok c (List.mem_of_getElem? hb), ?_⟩
  have e := StrLaws.at_nonneg (x := litT) (n := c) h0 (by simpa [sg] using hb)
  unfold Txt.item Txt.charAt
  rw [e]
  rfl
section
variable {prog : Program} {w : World} {A : Around} {E : Value → Shared → Prop} {s : Shared} {value slice : Expr} {t u : Tok} {Q : Value → Shared → Prop}
end
structure TmS where
  num : Int
  out : Str
  i : Nat
  k1 : Tok
  k2 : Tok
noncomputable def TmOk (c : TmS) : Prop := c.i ≤ 4 ∧ 0 ≤ c.num ∧ c.num < 8 ^ (4 - c.i) ∧ okText c.out ∧ c.out.length = c.i
theorem okText_snoc {x : Str} {c : Nat} (h : okText x) (hc : okSign c) : okText (x ++ ⟨#[c]⟩) := by
  intro d hd
  rw [Str.cps_append, Array.toList_append] at hd
  rcases List.mem_append.mp hd with hd | hd
  · exact h d hd
  · simp at hd; subst hd; exact hc
theorem fmod8 (n : Int) : 0 ≤ Int.fmod n 8 ∧ Int.fmod n 8 < 8 := ⟨Int.fmod_nonneg_of_pos _ (by decide), Int.fmod_lt_of_pos _ (by decide)⟩
theorem fdiv8 {n : Int} {i : Nat} (h0 : 0 < n) (h1 : n < 8 ^ (4 - i)) (hi : i ≤ 4) : i < 4 ∧ 0 ≤ Int.fdiv n 8 ∧ Int.fdiv n 8 < 8 ^ (4 - (i + 1)) := by
  have hlt : i < 4 := by
    apply Classical.byContradiction
    intro h
    have : 4 - i = 0 := by omega
    rw [this] at h1
    simp at h1; omega
  have e : (4 - i) = (4 - (i + 1)) + 1 := by omega
  rw [e, Int.pow_succ] at h1
  rw [Int.fdiv_eq_ediv_of_nonneg _ (by omega)]
  refine ⟨hlt, Int.ediv_nonneg (by omega) (by omega), Int.ediv_lt_of_lt_mul (by omega) h1⟩
end Mine
end
section

open PySem PySem.W PyProof.Rows PySem.Calls PySem.Spec
namespace Mine
theorem kw_S10 : True := by
  k_with_none
  trivial
theorem kw_S10_22 : True := by
  k_with "ktr_room" => (simp only [depth_under_make, depth_under_kw, depth_in1, depth_deeper, depth_caller, ktrTop]; omega)
  k_with "ktr_units" => (simp only [units_in1, units_deeper, Around.mark_units, units_caller, ktrTop]; omega)
  k_with "k_room" => ktr_room
  k_with "k_units" => ktr_units
  k_with "tb_rel" => (repeat (first | assumption | apply List.Mem.tail))
  k_with "k_all" => (first | refine allBelow (by assumption) ?_ | refine allBelow (tb_ltOf (by assumption)) ?_); (try dsimp only); omega
  k_with "k_mem" => first | exact List.Mem.head _ | assumption | (refine' List.Mem.tail _ ?_; k_mem)
  trivial
set_option maxRecDepth 100000
set_option maxHeartbeats 1000000

theorem kw_S10_23 : True := by
  k_with "m_enterC" => (refine' code_defC ?qqk1 ?qqk2 ?qqk3 ?qqk4 ?qqk5 ?qqkA ?qqkF ?qqkK ?qqk6 ?qqk7 ?qqk8 ?qqk9 ?qqkB ?qqkD ?_ ?qqc2 ?qqc3 ?qqc4; (case qqkA => exact rfl); (case qqkF => exact rfl); (case qqkK => assumption); (case qqk1 => k_asm); (case qqk2 => k_asm); (case qqk3 => k_asm); (case qqk4 => k_asm); (case qqk5 => k_asm); (case qqk6 => k_is); (case qqk7 => k_is); (case qqk8 => ktr_room); (case qqk9 => exact BindsTo.of_eq rfl); (case qqkB => exact rfl); (case qqkD => decide +kernel); (case qqc2 => exact rfl); (case qqc3 => exact rfl); (case qqc4 => exact rfl); k_whole; intro g' L' h' tk' cells' FG' F' N' Y' B' X' T' qql1; k_cells Y'; (try simp only [List.cons_append, List.nil_append] at N'); (try dsimp only); (try k_fold))
  k_with "exec For" => (k_here; refine wpAny_For ?_ (fun _ => rfl))
  k_with "exec For Tuple List cons nil" => (k_here; refine wpAny_For ?_ (fun _ => rfl))
  k_with "spliced" => (k_here; first | refine args_cons ?_ | (refine args_nil ?_; try dsimp only [List.cons_append, List.nil_append]))
  k_with "m_lit" => first | exact lt_None | exact lt_True | exact lt_False | exact lt_q | exact lt_d | exact lt_po | exact lt_pc | exact lt_bo | exact lt_bc | exact lt_cs | exact lt_cp | exact lt_mi | exact lt_ze | exact lt_nl | exact lt_bs | exact lt_n | exact lt_one _
  k_with "m_yes" => (refine' sl_yes ?qqha ?qqhk ?qqhl ?qqhe; (case qqhl => walk_at "m_lit"); (case qqha => assumption); (case qqhk => decide); (case qqhe => rfl))
  k_with "m_no" => first
  | (refine' sl_no ?qqha ?qqhk ?qqhl ?qqhc; (case qqhl => walk_at "m_lit"); (case qqha => assumption); (case qqhk => decide); (case qqhc => first | assumption | omega))
  | (refine' sl_no2 ?qqha ?qqhk ?qqhl ?qqhc; (case qqhl => walk_at "m_lit"); (case qqha => assumption); (case qqhk => decide); (case qqhc => first | assumption | omega))
  | (refine' sl_end ?qqha ?qqhk ?qqhl; (case qqhl => walk_at "m_lit"); (case qqha => assumption); (case qqhk => decide))
  k_with "compareOp Eq str str" => (k_here; (with_reducible show wpAny _ _ (compareOp _ (Value.str (Txt.slice _ _ _) _) _) _ _ _); k_dflt (first | (refine' eq_is (b := true) ?qqe ?_; (case qqe => walk_at "m_yes")) | (refine' eq_is (b := false) ?qqe ?_; (case qqe => walk_at "m_no"))))
  k_with "compareOp NotEq str str" => (k_here; (with_reducible show wpAny _ _ (compareOp _ (Value.str (Txt.slice _ _ _) _) _) _ _ _); k_dflt (first | (refine' ne_is (b := true) ?qqe ?_; (case qqe => walk_at "m_yes")) | (refine' ne_is (b := false) ?qqe ?_; (case qqe => walk_at "m_no"))))
  k_with "m_turn2" => (refine' list2_turn ?qqF ?qqN ?qqhI ?qqh1 ?qqh2 ?qqhm ?qqhg; (case qqF => k_asm); (case qqN => k_asm); (case qqhI => assumption); (case qqh1 => k_mem); (case qqh2 => (intro p hp; (walk_at "tb_rel"))); (case qqhm => (intro z h1 h2; simp only [if_neg h1, if_neg h2])); (case qqhg => decide))
  k_with "m_lt" => first | assumption | exact tb_ltOf (by assumption) | exact tb_ltOf (And.right (by assumption)) | exact tb_ltOf (And.right (And.right (by assumption))) | exact tb_ltOf (And.right (And.right (And.right (by assumption)))) | exact tb_ltOf (And.right (And.right (And.right (And.right (by assumption))))) | exact tb_ltOf (And.right (And.right (And.right (And.right (And.right (by assumption)))))) | exact tb_ltOf (And.right (And.right (And.right (And.right (And.right (And.right (by assumption))))))) | exact tb_ltOf (And.right (And.right (And.right (And.right (And.right (And.right (And.right (by assumption)))))))) | exact tb_ltOf (And.right (And.right (And.right (And.right (And.right (And.right (And.right (And.right (by assumption)))))))))
  k_with "m_ret1" => ((rename Fr _ _ _ _ => lF'); (rename News _ _ _ _ => lN'); (refine' rd_ret1 ?qqhret lF' lN' ?qqhm ?qqhs ?qqab ?_; (case qqhret => assumption); (case qqhm => k_mem); (case qqhs => (intro p hp; (walk_at "tb_rel"))); (case qqab => walk_at "m_lt")))
  k_with "subscriptTail Name Name str int" => (k_here; (with_reducible show wpAny _ _ (subscriptTail _ _ (Value.str _ _) (Value.int _ _)) _ _ _); k_dflt (refine' item_at ?qqha ?qqhw ?_ ?qqhs ?qqht; (case qqha => assumption); (case qqhw => assumption); (case qqhs => with_unfolding_all rfl); (case qqht => (intro _; with_unfolding_all rfl)); k_whole))
  k_with "exec While BoolOp cons nil" => (k_here; refine held_off ?_)
  k_with "exec While Compare cons nil" => (k_here; refine held_off ?_)
  k_with "m_ne" => first | assumption | omega
  k_with "m_ch1" => (refine' ch_yes ?qqhl ?qqhc; (case qqhl => walk_at "m_lit"); (case qqhc => first | rfl | omega))
  k_with "m_ch0" => (refine' ch_no ?qqhl ?qqhc; (case qqhl => walk_at "m_lit"); (case qqhc => walk_at "m_ne"))
  k_with "compareOp Eq str str" => (k_here; (with_reducible show wpAny _ _ (compareOp _ (Value.str (Str.mk #[_]) _) _) _ _ _); k_dflt (first | (refine' eq_is (b := true) ?qqe ?_; (case qqe => walk_at "m_ch1")) | (refine' eq_is (b := false) ?qqe ?_; (case qqe => walk_at "m_ch0"))))
  k_with "compareOp NotEq str str" => (k_here; (with_reducible show wpAny _ _ (compareOp _ (Value.str (Str.mk #[_]) _) _) _ _ _); k_dflt (first | (refine' ne_is (b := true) ?qqe ?_; (case qqe => walk_at "m_ch1")) | (refine' ne_is (b := false) ?qqe ?_; (case qqe => walk_at "m_ch0"))))
  k_with "compareOp NotIn str ref" => (k_here; k_dflt (refine' notinL ?qqN ?qqm ?qqi ?qqv ?_; (case qqN => k_asm); (case qqm => k_mem); (case qqi => exact .cons _ _ (.cons _ _ (.cons _ _ .nil))); (case qqv => exact nb_any (by assumption) (by omega)); k_whole))
  k_with "ktr_rel" => (rw [sizeLine_eq]; (try simp only [PySem.Str.length_append, len1c, len_nl]); omega)
  k_with "inplaceOp Add str str" => (k_here; (refine PyProof.Rows.iadd_str (hsz := ?qqhsz) ?_); (case qqhsz => (walk_at "ktr_rel")); intro _ _)
  k_with "KswPost" => (refine held_off ?_)
  k_with "call builtin:len" => (k_here; (with_reducible show wpAny _ _ (call (Value.builtin "len") [Value.str _ _]) _ _ _); (fail_if_success (with_reducible show wpAny _ _ (call (Value.builtin "len") [Value.str (PySem.Str.ofString _) _]) _ _ _)); k_dflt (refine PySem.P.len_str (by omega) ?_))
  trivial
theorem text_spec {w : World} {n : Int} {k : Tok} (h0 : 0 ≤ n) (h1 : n < 4096) : C3 w 87 10 60 [.int n k] [] (fun _ => True) (fun tl r => tl = [] ∧ ∃ x t, r = .str x t ∧ okText x ∧ x.length ≤ 4) := by
  unfold C3 Callee
  k_fill
  intro loose mean mg mb dp un cn cs a ccd cl outer A₀ base h₀ L m news s Q E B F X N T hk hrel hd hu hret
  refine wpAny_call ?_
  k_dflt ktr_enter
  k_steps
  (rename Fr _ _ _ _ => lF); (rename News _ _ _ _ => lN)
  unfold Held
  refine' ksw_while (fun _ : TmS => news) (fun c => [(Str.ofString "out", .str c.out c.k1), (Str.ofString "number", .int c.num c.k2)]) TmOk [] (fun _ => True) (fun c => 4 - c.i) ⟨n, Str.ofString "", 0, ?t1, ?t2⟩ lF lN ?hf ?hk trivial ?turn ?po
  case hk => (refine List.forall_mem_cons.mpr ⟨?_, List.forall_mem_cons.mpr ⟨?_, List.forall_mem_nil _⟩⟩ <;> rfl)
  case hf => exact ⟨Nat.zero_le _, h0, h1, fun c hc => by rw [show (Str.ofString "").cps.toList = [] from lt_empty] at hc; exact absurd hc List.not_mem_nil, by rw [← sg_length, lt_empty]; rfl⟩
  case po => passes_own
  case turn =>
    rintro ⟨num, out, i, k1, k2⟩ u h tk hC _ F9 N9
    clear lF lN
    have hi := hC.1
    have hn0 := hC.2.1
    have hn1 := hC.2.2.1
    have hok := hC.2.2.2.1
    have hlen := hC.2.2.2.2
    clear hC
    dsimp only at hi hn0 hn1 hok hlen F9 N9
    by_cases hz : 0 < num
    · have hdv := fdiv8 hz hn1 hi
      k_steps
      unfold Held
      refine' ksw_end (⟨_, _, i + 1, ?u1, ?v1⟩ : TmS) ?F ?N ?hn ?hf ?hk ?hr trivial ?hm
      case F => k_asm
      case N => k_asm
      case hk => (refine List.forall_mem_cons.mpr ⟨?_, List.forall_mem_cons.mpr ⟨?_, List.forall_mem_nil _⟩⟩ <;> rfl)
      case hn => (intro p hp; (walk_at "tb_rel"))
      case hf =>
        obtain ⟨c, hc, e⟩ := litT_at (fmod8 num).1 (fmod8 num).2
        refine ⟨hdv.1, hdv.2.1, hdv.2.2, ?_, ?_⟩
        · show okText (out ++ Txt.item litT (num.fmod 8))
          rw [e]; exact okText_snoc hok hc
        · show (out ++ Txt.item litT (num.fmod 8)).length = i + 1
          rw [e, Str.length_append, hlen]; rfl
      case hr => (intro z h1 h2; have e1 := h1 _ (List.Mem.head _); have e2 := h1 _ (List.Mem.tail _ (List.Mem.head _)); dsimp only at e1 e2; simp [kstB, e1, e2])
      case hm => (dsimp only; omega)
    · k_steps
      (rename Fr _ _ _ _ => lF'); (rename News _ _ _ _ => lN')
      exact hret _ [] _ _ lF' (fun p hp => lN' p (by (walk_at "tb_rel"))) (fun _ h => nomatch h) ⟨rfl, _, _, rfl, hok, by omega⟩
theorem callee_txt {prog : Program} {K : Params → Frag} {p : Program} {w : World} {f : Addr} {D U : Nat} {args : List Value} {kw : List (PySem.Str × Value)} {rel : List (Addr × Obj) → Prop}
    (C : Callee prog K p w f D U args kw rel (fun tl r => tl = [] ∧ ∃ x t, r = .str x t ∧ okText x ∧ x.length ≤ 4))
    {loose : List PySem.Str} {mean : ExcName → Option Value} {mg mb : PySem.Str → Option Value} {dp un : Nat} {cn : PySem.Str} {cs : Scope} {a : Addr} {ccd : Value} {cl : List (PySem.Str × Addr)} {outer : List Env} {A₀ : Around} {base h₀ : Heap} {L : Addr} {m : PySem.Str → Option Value} {news : List (Addr × Obj)} {s : Shared}
    {Q E : Value → Shared → Prop}
    (B : Below A₀ base outer h₀) (F : Fr h₀ L s.heap m) (X : (K w.params).In h₀) (N : News h₀ L s.heap news) (T : Top p loose mean mg mb h₀) (hk : cs.kind = .function) (hr : rel news) (hd : dp + D < recursionLimit) (hu : un + U < cLine)
    (ret : ∀ x t h' tk', Fr h₀ L h' m → News h₀ L h' news → okText x → x.length ≤ 4 → Q (.str x t) { s with heap := h', toks := tk' }) :
    wpAny (model prog w) (ktrTop dp un (some []) cn cs L a ccd cl outer) (call (.ref f) args kw) Q E s :=
  callee_use C B F X N T hk hr hd hu (fun r tl h' tk' F' N' up o => by obtain ⟨rfl, x, t, rfl, h1, h2⟩ := o; exact ret x t h' tk' F' N' h1 h2)
end Mine
end
theorem Mine.kw_F11 : True := by
  k_with_none
  trivial
section

open PySem PySem.W PyProof.Rows PySem.Calls PySem.Spec
set_option maxRecDepth 100000
set_option maxHeartbeats 400000
namespace Mine
theorem sl_pc {words pc : Str} {n : Int} {k : Nat} {X : List Nat} (ha : AtR words n (sg pc ++ X)) (hk : (sg pc).length = k) : (Txt.slice words (some n) (some (n + (k : Int))) == pc) = true := by
  rw [slice_at ha (by omega)]
  refine txt_yes ?_
  show (sg pc ++ X).take (k : Int).toNat = sg pc
  rw [Int.toNat_natCast, ← hk, List.take_left]
noncomputable def TdOk (words : Str) (D : List PyData) (rest : Nat → List Nat) (P : Addr) (R0 news : List (Addr × Obj)) (c : RowS) : Prop :=
  AtR words c.pos (rest c.i) ∧ c.vs.length = c.i ∧ BdAll c.more (D.take c.i) c.vs ∧ OffP P (R0 ++ (c.more ++ news)) ∧ ∀ p ∈ c.more, P < p.1
noncomputable def TdJ (words : Str) (D : List PyData) (rest : Nat → List Nat) (lp : Addr) (op : Obj) (P : Addr) (news : List (Addr × Obj)) (m₀ : Str → Option Value) (i : Nat) (m : Str → Option Value) (nx : List (Addr × Obj)) : Prop :=
  ∃ c : RowS, c.i = i ∧ nx = (lp, op) :: (P, W.listOf c.vs.toArray c.cap) :: (c.more ++ news) ∧ TdOk words D rest P [(lp, op)] news c ∧ m (Str.ofString "at") = some (.int c.pos c.k1) ∧ ∀ z, z ≠ Str.ofString "piece" → z ≠ Str.ofString "at" → z ≠ Str.ofString "found" → m z = m₀ z
section
variable {prog : Program} {w : World} {A : Around} {E : Value → Shared → Prop} {s : Shared} {env : Env} {h₀ : Heap} {Q : Flow → Shared → Prop} {body : List Stmt} {news : List (Addr × Obj)}
theorem td_end {L I : Addr} {oI : Obj} {l tl : List (Addr × Obj)} {words : Str} {D : List PyData} {rest : Nat → List Nat} {lp : Addr} {op : Obj} {P : Addr} {m₀ m' : Str → Option Value} {c : RowS} {d : PyData} {v : Value} {pos' : Int} {k' : Tok} {h' : Heap} {tk : Nat}
    (F : Fr h₀ L h' m') (N : News h₀ L h' l) (hm : (P, W.listOf (c.vs ++ [v]).toArray (c.cap + 1)) ∈ l) (sub : ∀ p ∈ tl ++ ((I, oI) :: (lp, op) :: (c.more ++ news)), p ∈ l)
    (hc : TdOk words D rest P [(lp, op)] news c) (hI : ∀ p ∈ (lp, op) :: (P, W.listOf c.vs.toArray c.cap) :: (c.more ++ news), p.1 ≠ I) (hIt : ∀ p ∈ tl, p.1 ≠ I) (hd : D[c.i]? = some d) (hbd : Bd tl d v) (off : OffP P (tl ++ ((I, oI) :: (lp, op) :: (c.more ++ news)))) (up : ∀ p ∈ tl, P < p.1) (ha : AtR words pos' (rest (c.i + 1)))
    (hat : m' (Str.ofString "at") = some (.int pos' k')) (hr : ∀ z, z ≠ Str.ofString "piece" → z ≠ Str.ofString "at" → z ≠ Str.ofString "found" → m' z = m₀ z) :
    TurnNext h₀ L I [(I, oI)] (TdJ words D rest lp op P news m₀ (c.i + 1)) s { s with heap := h', toks := tk } := by
  obtain ⟨h2, h3, h4, h5, h6⟩ := hc
  refine ⟨h', tk, m', (lp, op) :: (P, W.listOf (c.vs ++ [v]).toArray (c.cap + 1)) :: ((tl ++ c.more) ++ news), rfl, F, ?_, ?_, ⟨pos', c.i + 1, c.vs ++ [v], c.cap + 1, tl ++ c.more, k'⟩, rfl, rfl, ⟨ha, by simp [h3], ?_, ?_, ?_⟩, hat, hr⟩
  · intro p hp
    refine N p ?_
    rcases List.mem_cons.mp hp with rfl | hp
    · exact sub _ (List.mem_append_right _ (List.Mem.head _))
    rcases List.mem_cons.mp hp with rfl | hp
    · exact sub _ (List.mem_append_right _ (List.Mem.tail _ (List.Mem.head _)))
    rcases List.mem_cons.mp hp with rfl | hp
    · exact hm
    rcases List.mem_append.mp hp with hp | hp
    · rcases List.mem_append.mp hp with hp | hp
      · exact sub _ (List.mem_append_left _ hp)
      · exact sub _ (List.mem_append_right _ (List.Mem.tail _ (List.Mem.tail _ (List.mem_append_left _ hp))))
    · exact sub _ (List.mem_append_right _ (List.Mem.tail _ (List.Mem.tail _ (List.mem_append_right _ hp))))
  · intro p hp
    rcases List.mem_cons.mp hp with rfl | hp
    · exact hI _ (List.Mem.head _)
    rcases List.mem_cons.mp hp with rfl | hp
    · exact hI (P, W.listOf c.vs.toArray c.cap) (List.Mem.tail _ (List.Mem.head _))
    rcases List.mem_append.mp hp with hp | hp
    · rcases List.mem_append.mp hp with hp | hp
      · exact hIt _ hp
      · exact hI _ (List.Mem.tail _ (List.Mem.tail _ (List.mem_append_left _ hp)))
    · exact hI _ (List.Mem.tail _ (List.Mem.tail _ (List.mem_append_right _ hp)))
  · dsimp only
    rw [List.take_add_one, hd]
    exact BdAll.snoc (BdAll.mono (fun p hp => List.mem_append_right _ hp) h4) (Bd.mono (fun p hp => List.mem_append_left _ hp) hbd)
  · intro p hp
    have hp : p ∈ (lp, op) :: ((tl ++ c.more) ++ news) := hp
    have key : p ∈ tl ++ ((I, oI) :: (lp, op) :: (c.more ++ news)) := by
      rcases List.mem_cons.mp hp with rfl | hp
      · exact List.mem_append_right _ (List.Mem.tail _ (List.Mem.head _))
      rcases List.mem_append.mp hp with hp | hp
      · rcases List.mem_append.mp hp with hp | hp
        · exact List.mem_append_left _ hp
        · exact List.mem_append_right _ (List.Mem.tail _ (List.Mem.tail _ (List.mem_append_left _ hp)))
      · exact List.mem_append_right _ (List.Mem.tail _ (List.Mem.tail _ (List.mem_append_right _ hp)))
    exact off p key
  · intro p hp
    rcases List.mem_append.mp hp with hp | hp
    · exact up p hp
    · exact h6 p hp
theorem td_iter {ax : Addr} {vs : Array Value} {n0 n : Nat} {px : Pos} {P : Addr} {m₀ : Str → Option Value} {words : Str} {D : List PyData} {rest : Nat → List Nat} {k0 : Tok} (hn : vs.size = n) (hh : A.handled = none) (F : Fr h₀ env.locals s.heap m₀) (N : News h₀ env.locals s.heap ((P, W.listOf #[] 0) :: (ax, listOf vs n0) :: news))
    (hat : m₀ (Str.ofString "at") = some (.int 0 k0)) (ha : AtR words 0 (rest 0)) (hl : ax < P) (hnw : ∀ p ∈ news, p.1 < P)
    (hx : env.kindOf (Str.ofString "piece") = some .local) (hp : (env.scope.kind == .class || (env.scope.kind == .module && env.locals != env.globals)) = false)
    (turn : ∀ (I : Addr) (c : RowS) (v : Value) (h : Heap) (tk : Nat) (oI : Obj) (u : Option Value), vs[c.i]? = some v → TdOk words D rest P [(ax, listOf vs n0)] news c → OffP P ((I, oI) :: (ax, listOf vs n0) :: (c.more ++ news)) → (∀ p ∈ (ax, listOf vs n0) :: (P, W.listOf c.vs.toArray c.cap) :: (c.more ++ news), p.1 ≠ I) →
      Fr h₀ env.locals h (fun z => if z = Str.ofString "piece" then some v else if z = Str.ofString "at" then some (.int c.pos c.k1) else if z = Str.ofString "found" then u else m₀ z) → News h₀ env.locals h ((I, oI) :: (ax, listOf vs n0) :: (P, W.listOf c.vs.toArray c.cap) :: (c.more ++ news)) →
      wpAny (model prog w) A (execs body env) (TurnQ h₀ env.locals I [(I, oI)] (TdJ words D rest ax (listOf vs n0) P news m₀ (c.i + 1)) s Q) E { s with heap := h, toks := tk })
    (done : ∀ (c : RowS) (u1 u2 : Option Value) h tk, c.i = n → TdOk words D rest P [(ax, listOf vs n0)] news c → Fr h₀ env.locals h (fun z => if z = Str.ofString "piece" then u1 else if z = Str.ofString "at" then some (.int c.pos c.k1) else if z = Str.ofString "found" then u2 else m₀ z) → News h₀ env.locals h ((ax, listOf vs n0) :: (P, W.listOf c.vs.toArray c.cap) :: (c.more ++ news)) → Q .next { s with heap := h, toks := tk })
    (hE : PassesOwn (model prog w) A env E) :
    wpAny (model prog w) A (pyIter (.ref ax)) (fun it s₂ => codeAny (model prog w) A (.forLoop (.Name (Str.ofString "piece") px) it body [] env) (fun r s' => match r with | .ok f => Q f s' | .error e => cameBackBy (model prog w) A env E e s') s₂) E s := by
  have eqm : ∀ (m₁ : Str → Option Value) (a : Option Value), m₁ (Str.ofString "at") = a → (∀ z, z ≠ Str.ofString "piece" → z ≠ Str.ofString "at" → z ≠ Str.ofString "found" → m₁ z = m₀ z) → m₁ = fun z => if z = Str.ofString "piece" then m₁ (Str.ofString "piece") else if z = Str.ofString "at" then a else if z = Str.ofString "found" then m₁ (Str.ofString "found") else m₀ z := by
    intro m₁ a ea e2
    funext z
    by_cases h1 : z = Str.ofString "piece"
    · rw [if_pos h1, h1]
    · rw [if_neg h1]
      by_cases h2 : z = Str.ofString "at"
      · rw [if_pos h2, h2, ea]
      · rw [if_neg h2]
        by_cases h3 : z = Str.ofString "found"
        · rw [if_pos h3, h3]
        · rw [if_neg h3]; exact e2 z h1 h2 h3
  have hmx : (ax, listOf vs n0) ∈ (P, W.listOf #[] 0) :: (ax, listOf vs n0) :: news := List.Mem.tail _ (List.Mem.head _)
  have hls : s.heap.IsList ax vs := ⟨_, (N _ hmx).1, rfl, _, rfl⟩
  refine wpAny_pyIter_list hls ?_
  have hlt : ax < s.heap.objs.size := Heap.lt_size (N _ hmx).1
  have N0 : News h₀ env.locals s.heap ((ax, listOf vs n0) :: (P, W.listOf #[] 0) :: ([] ++ news)) := fun p hp => N p (by
    rcases List.mem_cons.mp hp with rfl | hp
    · exact hmx
    · rcases List.mem_cons.mp hp with rfl | hp
      · exact List.Mem.head _
      · exact List.Mem.tail _ (List.Mem.tail _ hp))
  refine forOwnL (oa := listOf vs n0) (s := { s with heap := s.heap.push _ }) (Walks.list hh s.heap.objs.size ax (Nat.ne_of_lt hlt) vs) ?_ (Nat.ne_of_lt F.ns.lt) ⟨⟨_, Heap.get?_push_size _ rfl, rfl, rfl⟩, hls.at fun o e => Heap.get?_push_of_some _ e⟩ (F.push _) (fun p hp => ⟨Heap.get?_push_of_some _ (N0 p hp).1, (N0 p hp).2⟩) (fun p hp => Nat.ne_of_lt (Heap.lt_size (N0 p hp).1))
    (fun i h st => by obtain ⟨o, e, _⟩ := st.1; exact ⟨o, e⟩) (fun i m nx => TdJ words D rest ax (listOf vs n0) P news m₀ i m nx) (fun _ _ _ j => by obtain ⟨c, _, rfl, _⟩ := j; exact List.Mem.head _) ⟨⟨0, 0, [], 0, [], k0⟩, rfl, rfl, ⟨ha, rfl, by simp [BdAll], ?_, fun p hp => absurd hp List.not_mem_nil⟩, hat, fun _ _ _ _ => rfl⟩ ?_ ?_ hE (fun _ => rfl)
  · exact next_is_new F
  · intro p hp
    rcases List.mem_cons.mp hp with rfl | hp
    · exact Nat.ne_of_lt hl
    · exact Nat.ne_of_lt (hnw p (by simpa using hp))
  · rintro i v m₁ nx h tk oI hi hv ⟨c, rfl, rfl, hc, e1, e2⟩ ha F₁ N₁
    refine wpAny_assign_Name (wpAny_storeName_local hx F₁.ns (fun h₂ hn₂ hs₂ => ?_) hp)
    have F₂ := F₁.set hn₂ hs₂
    have e : (fun z => if z = Str.ofString "piece" then some v else m₁ z) = fun z => if z = Str.ofString "piece" then some v else if z = Str.ofString "at" then some (.int c.pos c.k1) else if z = Str.ofString "found" then m₁ (Str.ofString "found") else m₀ z := by
      funext z
      by_cases h1 : z = Str.ofString "piece"
      · rw [if_pos h1, if_pos h1]
      · rw [if_neg h1, if_neg h1]
        have e' := congrFun (eqm m₁ _ e1 e2) z
        rw [if_neg h1] at e'
        exact e'
    rw [e] at F₂
    refine turn _ c v h₂ _ oI (m₁ (Str.ofString "found")) hv hc ?_ ha F₂ (N₁.set hs₂)
    intro p hp
    rcases List.mem_cons.mp hp with rfl | hp
    · exact fun e9 => ha _ (List.Mem.tail _ (List.Mem.head _)) e9.symm
    · exact hc.2.2.2.1 p hp
  · rintro m₁ nx h tk ⟨c, hi, rfl, hc, e1, e2⟩ F₁ N₁
    rw [eqm m₁ _ e1 e2] at F₁
    exact done c (m₁ (Str.ofString "piece")) (m₁ (Str.ofString "found")) h tk (by omega) hc F₁ N₁
end
theorem four_of {a b c d v : Value} {i : Nat} (h : (#[a, b, c, d] : Array Value)[i]? = some v) : (i = 0 ∧ v = a) ∨ (i = 1 ∧ v = b) ∨ (i = 2 ∧ v = c) ∨ (i = 3 ∧ v = d) := by
  match i, h with
  | 0, h => exact .inl ⟨rfl, by simpa using h.symm⟩
  | 1, h => exact .inr (.inl ⟨rfl, by simpa using h.symm⟩)
  | 2, h => exact .inr (.inr (.inl ⟨rfl, by simpa using h.symm⟩))
  | 3, h => exact .inr (.inr (.inr ⟨rfl, by simpa using h.symm⟩))
  | n + 4, h => simp at h
/-- the data that the message tells -/
noncomputable abbrev tdD (d1 d2 d3 : PyData) : List PyData := [d1, d2, .int 10, d3]
noncomputable def tdRest (d1 d2 d3 : PyData) : Nat → List Nat
  | 0 => sg pc1 ++ (shC d1 ++ (sg pc2 ++ (shC d2 ++ (sg pc3 ++ (shC (.int 10) ++ (sg pc4 ++ shC d3))))))
  | 1 => sg pc2 ++ (shC d2 ++ (sg pc3 ++ (shC (.int 10) ++ (sg pc4 ++ shC d3))))
  | 2 => sg pc3 ++ (shC (.int 10) ++ (sg pc4 ++ shC d3))
  | 3 => sg pc4 ++ shC d3
  | _ => []
theorem told3_sg (d1 d2 d3 : PyData) : sg (told3 d1.shown d2.shown d3.shown) = tdRest d1 d2 d3 0 := by
  unfold told3
  simp only [sg_append, tdRest, List.append_assoc]
  rw [show sg (Str.ofString (toString (10 : Int))) = shC (.int 10) from by rw [shC, PyData.shown_int]]
theorem pc2_sp : ∃ r, sg pc2 = 32 :: r := ⟨(sg pc2).tail, by decide +kernel⟩
theorem pc3_sp : ∃ r, sg pc3 = 32 :: r := ⟨(sg pc3).tail, by decide +kernel⟩
theorem pc4_sp : ∃ r, sg pc4 = 32 :: r := ⟨(sg pc4).tail, by decide +kernel⟩
theorem pc_sp {pc : Str} {X : List Nat} (h : ∃ r, sg pc = 32 :: r) : ∀ c r, sg pc ++ X = c :: r → ¬ isDg c := by
  obtain ⟨r0, e0⟩ := h
  intro c r e
  rw [e0] at e
  cases e
  unfold isDg; omega
end Mine
end
section

open PySem PySem.W PyProof.Rows PySem.Calls PySem.Spec
set_option maxRecDepth 100000
set_option maxHeartbeats 400000
namespace Mine
theorem seq_list_iadd : seqSlot? (.type "list") (dunderI "add") = pure (some (.builtin "list.__iadd__")) := PySem.seqSlot_of PySem.F.slot_list_iadd.lookup (by decide +kernel)
theorem noInpl_list_add : fillsInplaceSlot (.type "list") "add" (Operator.Add == .Add) = pure false := by
  unfold fillsInplaceSlot
  show (typeLookup (.type "list") (dunderI "add") >>= fun fi => pure (fi.isSome && !isSeqSlot fi)) = pure false
  rw [PySem.F.slot_list_iadd.lookup]
  rfl
section
variable {prog : Program} {w : World} {A : Around} {E : Value → Shared → Prop} {s : Shared} {h₀ : Heap} {L P : Addr} {m : Str → Option Value} {l R : List (Addr × Obj)}
theorem iadd_list {a b : Addr} {items items2 : Array Value} {n n2 : Nat} {Q : Value → Shared → Prop} (ha : s.heap.get? a = some { cls := .type "list", data := .seq items n }) (hb : s.heap.get? b = some { cls := .type "list", data := .seq items2 n2 })
    (h1 : items.size + items2.size ≤ 100000) (h : Q (.ref a) { s with heap := s.heap.update a (Obj.mapSeq fun x => x ++ items2) }) :
    wpAny (model prog w) A (inplaceOp .Add (.ref a) (.ref b)) Q E s := by
  have ta : s.TypeIs (.ref a) "list" := ⟨_, ha, rfl⟩
  have tb : s.TypeIs (.ref b) "list" := ⟨_, hb, rfl⟩
  unfold inplaceOp
  refine wpAny_holding ?_
  refine wpAny_bind (wpAny_typeOf ta (wpAny_bind (wpAny_of_eq noInpl_list_add ?_)))
  show wpAny _ A (if false = true then _ else _) Q E s
  rw [if_neg Bool.false_ne_true]
  refine wpAny_bind (wpAny_binaryOp1_none (nm := "add") ta tb PySem.noFill_list_add ?_)
  refine wpAny_bind (wpAny_of_eq seq_list_iadd ?_)
  refine wpAny_bind (wpAny_rule ?_)
  have hs : sizeLine = 16777216 := sizeLine_eq
  have g := AutoSeq1.list___iadd___list_list_0 a items n b items2 n2 (by
    intro hc
    have : Builtin.List.listTooLong (items.size + items2.size) = false := by unfold Builtin.List.listTooLong; simp; omega
    rw [this, Bool.and_false] at hc; cases hc) (by omega) (by omega)
  exact call_meets PySem.F.slot_list_iadd ta PySem.F.entry_list_iadd (PySem.F.args_list_iadd_2 _ _) g ⟨ha, hb, h⟩
theorem iaddP {a b : Addr} {vs us : List Value} {n n2 : Nat} {Q : Value → Shared → Prop} (F : Fr h₀ L s.heap m) (N : News h₀ L s.heap l) (hm : (a, W.listOf vs.toArray n) ∈ l) (hb : (b, W.listOf us.toArray n2) ∈ l) (hR : OffP a R) (sub : ∀ p ∈ R, p ∈ l) (hz : vs.length + us.length ≤ 100000)
    (h : ∀ h' n', Fr h₀ L h' m → News h₀ L h' ((a, W.listOf (vs ++ us).toArray n') :: R) → Q (.ref a) { s with heap := h' }) : wpAny (model prog w) A (inplaceOp .Add (.ref a) (.ref b)) Q E s := by
  have ha := (N _ hm)
  refine iadd_list (items := vs.toArray) (items2 := us.toArray) ha.1 (N _ hb).1 (by rw [List.size_toArray, List.size_toArray]; exact hz) ?_
  have N2 : News h₀ L s.heap ((a, W.listOf vs.toArray n) :: R) := fun p hp => by
    rcases List.mem_cons.mp hp with rfl | hp
    · exact ha
    · exact N _ (sub p hp)
  obtain ⟨U1, U2⟩ := news_upd (pre := []) (post := R) (o := W.listOf vs.toArray n) (o' := Obj.mapSeq (fun x => x ++ us.toArray) (W.listOf vs.toArray n)) (f := Obj.mapSeq fun x => x ++ us.toArray) F N2 (fun p hp => nomatch hp) hR rfl rfl
  have e : ∃ n', Obj.mapSeq (fun x => x ++ us.toArray) (W.listOf vs.toArray n) = W.listOf (vs ++ us).toArray n' := by
    refine ⟨if (vs.toArray ++ us.toArray).size == vs.toArray.size then n else n + 1, ?_⟩
    have e1 : Obj.mapSeq (fun x => x ++ us.toArray) (W.listOf vs.toArray n) = W.listOf (vs.toArray ++ us.toArray) (if (vs.toArray ++ us.toArray).size == vs.toArray.size then n else n + 1) := rfl
    rw [e1, List.append_toArray]
  obtain ⟨n', e⟩ := e
  rw [e] at U2
  exact h _ n' U1 U2
end
theorem offLt {a : Addr} {R : List (Addr × Obj)} (h : ∀ p ∈ R, p.1 < a) : OffP a R := fun p hp => Nat.ne_of_lt (h p hp)
theorem row_call2 {prog : Program} {K : Params → Frag} {p : Program} {w : World} {f : Addr} {D U : Nat} {args : List Value} {d : PyData} {e : Int}
    (C : Callee prog K p w f D U args [] (fun _ => True) (RdOut d e))
    {loose : List PySem.Str} {mean : ExcName → Option Value} {mg mb : PySem.Str → Option Value} {dp un : Nat} {cn : PySem.Str} {cs : Scope} {a : Addr} {ccd : Value} {cl : List (PySem.Str × Addr)} {outer : List Env} {A₀ : Around} {base h₀ : Heap} {L : Addr} {m : PySem.Str → Option Value} {l R : List (Addr × Obj)} {s : Shared}
    {Q E : Value → Shared → Prop} {P : Addr} {o : Obj}
    (B : Below A₀ base outer h₀) (F : Fr h₀ L s.heap m) (X : (K w.params).In h₀) (N : News h₀ L s.heap l) (T : Top p loose mean mg mb h₀) (hk : cs.kind = .function) (hd : dp + D < recursionLimit) (hu : un + U < cLine)
    (hm : (P, o) ∈ l) (hR : OffP P R) (sub : ∀ p ∈ R, p ∈ l)
    (ret : ∀ a v t c tl h' tk', Fr h₀ L h' m → News h₀ L h' ((P, o) :: (tl ++ R)) → OffP P (tl ++ R) → (∀ p ∈ tl, P < p.1) → (a, W.listOf #[v, .int e t] c) ∈ tl ++ R → Bd tl d v → (∀ p ∈ tl, ∀ q ∈ R, q.1 < p.1) → Q (.ref a) { s with heap := h', toks := tk' }) :
    wpAny (model prog w) (ktrTop dp un (some []) cn cs L a ccd cl outer) (call (.ref f) args []) Q E s := by
  refine callee_use C B F X N T hk trivial hd hu ?_
  rintro r tl h' tk' F' N' ab ⟨a, v, t, c, rfl, hma, hbd⟩
  refine ret a v t c tl h' tk' F' (fun p hp => ?_) (fun p hp => ?_) (fun p hp => ab p hp _ hm) (List.mem_append_left _ hma) hbd (fun p hp q hq => ab p hp q (sub q hq))
  · rcases List.mem_cons.mp hp with rfl | hp
    · exact N' _ (List.mem_append_right _ hm)
    · rcases List.mem_append.mp hp with hp | hp
      · exact N' _ (List.mem_append_left _ hp)
      · exact N' _ (List.mem_append_right _ (sub p hp))
  · rcases List.mem_append.mp hp with hp | hp
    · exact Nat.ne_of_gt (ab p hp _ hm)
    · exact hR p hp
theorem news_swap {h₀ h : Heap} {L : Addr} {a b c : Addr × Obj} {r : List (Addr × Obj)} (N : News h₀ L h (a :: b :: c :: r)) : News h₀ L h (c :: a :: b :: r) := fun p hp => N p (by
  rcases List.mem_cons.mp hp with rfl | hp
  · exact .tail _ (.tail _ (.head _))
  rcases List.mem_cons.mp hp with rfl | hp
  · exact .head _
  rcases List.mem_cons.mp hp with rfl | hp
  · exact .tail _ (.head _)
  exact .tail _ (.tail _ (.tail _ hp)))
theorem told_ret {h₀ h' : Heap} {L : Addr} {m : Str → Option Value} {news l more : List (Addr × Obj)} {s : Shared} {tk' : Nat} {Q : Value → Shared → Prop} {d : PyData} {P : Addr} {o : Obj}
    (hret : ∀ r tl h' tk', Fr h₀ L h' m → News h₀ L h' (tl ++ news) → (∀ p ∈ tl, ∀ q ∈ news, q.1 < p.1) → Bd tl d r → Q r { s with heap := h', toks := tk' })
    (F : Fr h₀ L h' m) (N : News h₀ L h' l) (hm : (P, o) ∈ l) (sub : ∀ p ∈ more ++ news, p ∈ l) (l2 : ∀ q ∈ news, q.1 < P) (l3 : ∀ p ∈ more, P < p.1)
    (bd : Bd ((P, o) :: more) d (.ref P)) : Q (.ref P) { s with heap := h', toks := tk' } := by
  refine hret _ ((P, o) :: more) _ _ F (fun p hp => N p ?_) ?_ bd
  · rcases List.mem_cons.mp hp with rfl | hp
    · exact hm
    · exact sub p hp
  · intro p hp q hq
    rcases List.mem_cons.mp hp with rfl | hp
    · exact l2 q hq
    · exact Nat.lt_trans (l2 q hq) (l3 p hp)
end Mine
end
section

open PySem PySem.W PyProof.Rows PySem.Calls PySem.Spec
namespace Mine
theorem kw_S11 : True := by
  k_with_none
  trivial
theorem kw_S11_24 : True := by
  k_with "ktr_room" => (simp only [depth_under_make, depth_under_kw, depth_in1, depth_deeper, depth_caller, ktrTop]; omega)
  k_with "ktr_units" => (simp only [units_in1, units_deeper, Around.mark_units, units_caller, ktrTop]; omega)
  k_with "k_room" => ktr_room
  k_with "k_units" => ktr_units
  k_with "tb_rel" => (repeat (first | assumption | apply List.Mem.tail))
  k_with "k_all" => (first | refine allBelow (by assumption) ?_ | refine allBelow (tb_ltOf (by assumption)) ?_); (try dsimp only); omega
  k_with "k_mem" => first | exact List.Mem.head _ | assumption | (refine' List.Mem.tail _ ?_; k_mem)
  trivial
set_option maxRecDepth 100000
set_option maxHeartbeats 1000000

theorem kw_S11_25 : True := by
  k_with "m_enterC" => (refine' code_defC ?qqk1 ?qqk2 ?qqk3 ?qqk4 ?qqk5 ?qqkA ?qqkF ?qqkK ?qqk6 ?qqk7 ?qqk8 ?qqk9 ?qqkB ?qqkD ?_ ?qqc2 ?qqc3 ?qqc4; (case qqkA => exact rfl); (case qqkF => exact rfl); (case qqkK => assumption); (case qqk1 => k_asm); (case qqk2 => k_asm); (case qqk3 => k_asm); (case qqk4 => k_asm); (case qqk5 => k_asm); (case qqk6 => k_is); (case qqk7 => k_is); (case qqk8 => ktr_room); (case qqk9 => exact BindsTo.of_eq rfl); (case qqkB => exact rfl); (case qqkD => decide +kernel); (case qqc2 => exact rfl); (case qqc3 => exact rfl); (case qqc4 => exact rfl); k_whole; intro g' L' h' tk' cells' FG' F' N' Y' B' X' T' qql1; k_cells Y'; (try simp only [List.cons_append, List.nil_append] at N'); (try dsimp only); (try k_fold))
  k_with "exec For" => (k_here; refine wpAny_For ?_ (fun _ => rfl))
  k_with "exec For Tuple List cons nil" => (k_here; refine wpAny_For ?_ (fun _ => rfl))
  k_with "spliced" => (k_here; first | refine args_cons ?_ | (refine args_nil ?_; try dsimp only [List.cons_append, List.nil_append]))
  k_with "m_lit" => first | exact lt_None | exact lt_True | exact lt_False | exact lt_q | exact lt_d | exact lt_po | exact lt_pc | exact lt_bo | exact lt_bc | exact lt_cs | exact lt_cp | exact lt_mi | exact lt_ze | exact lt_nl | exact lt_bs | exact lt_n | exact lt_one _
  k_with "m_yes" => (refine' sl_yes ?qqha ?qqhk ?qqhl ?qqhe; (case qqhl => walk_at "m_lit"); (case qqha => assumption); (case qqhk => decide); (case qqhe => rfl))
  k_with "m_no" => first
  | (refine' sl_no ?qqha ?qqhk ?qqhl ?qqhc; (case qqhl => walk_at "m_lit"); (case qqha => assumption); (case qqhk => decide); (case qqhc => first | assumption | omega))
  | (refine' sl_no2 ?qqha ?qqhk ?qqhl ?qqhc; (case qqhl => walk_at "m_lit"); (case qqha => assumption); (case qqhk => decide); (case qqhc => first | assumption | omega))
  | (refine' sl_end ?qqha ?qqhk ?qqhl; (case qqhl => walk_at "m_lit"); (case qqha => assumption); (case qqhk => decide))
  k_with "compareOp Eq str str" => (k_here; (with_reducible show wpAny _ _ (compareOp _ (Value.str (Txt.slice _ _ _) _) _) _ _ _); k_dflt (first | (refine' eq_is (b := true) ?qqe ?_; (case qqe => walk_at "m_yes")) | (refine' eq_is (b := false) ?qqe ?_; (case qqe => walk_at "m_no"))))
  k_with "compareOp NotEq str str" => (k_here; (with_reducible show wpAny _ _ (compareOp _ (Value.str (Txt.slice _ _ _) _) _) _ _ _); k_dflt (first | (refine' ne_is (b := true) ?qqe ?_; (case qqe => walk_at "m_yes")) | (refine' ne_is (b := false) ?qqe ?_; (case qqe => walk_at "m_no"))))
  k_with "m_turn2" => (refine' list2_turn ?qqF ?qqN ?qqhI ?qqh1 ?qqh2 ?qqhm ?qqhg; (case qqF => k_asm); (case qqN => k_asm); (case qqhI => assumption); (case qqh1 => k_mem); (case qqh2 => (intro p hp; (walk_at "tb_rel"))); (case qqhm => (intro z h1 h2; simp only [if_neg h1, if_neg h2])); (case qqhg => decide))
  k_with "m_lt" => first | assumption | exact tb_ltOf (by assumption) | exact tb_ltOf (And.right (by assumption)) | exact tb_ltOf (And.right (And.right (by assumption))) | exact tb_ltOf (And.right (And.right (And.right (by assumption)))) | exact tb_ltOf (And.right (And.right (And.right (And.right (by assumption))))) | exact tb_ltOf (And.right (And.right (And.right (And.right (And.right (by assumption)))))) | exact tb_ltOf (And.right (And.right (And.right (And.right (And.right (And.right (by assumption))))))) | exact tb_ltOf (And.right (And.right (And.right (And.right (And.right (And.right (And.right (by assumption)))))))) | exact tb_ltOf (And.right (And.right (And.right (And.right (And.right (And.right (And.right (And.right (by assumption)))))))))
  k_with "m_ret1" => ((rename Fr _ _ _ _ => lF'); (rename News _ _ _ _ => lN'); (refine' rd_ret1 ?qqhret lF' lN' ?qqhm ?qqhs ?qqab ?_; (case qqhret => assumption); (case qqhm => k_mem); (case qqhs => (intro p hp; (walk_at "tb_rel"))); (case qqab => walk_at "m_lt")))
  k_with "subscriptTail Name Name str int" => (k_here; (with_reducible show wpAny _ _ (subscriptTail _ _ (Value.str _ _) (Value.int _ _)) _ _ _); k_dflt (refine' item_at ?qqha ?qqhw ?_ ?qqhs ?qqht; (case qqha => assumption); (case qqhw => assumption); (case qqhs => with_unfolding_all rfl); (case qqht => (intro _; with_unfolding_all rfl)); k_whole))
  k_with "exec While BoolOp cons nil" => (k_here; refine held_off ?_)
  k_with "exec While Compare cons nil" => (k_here; refine held_off ?_)
  k_with "m_ne" => first | assumption | omega
  k_with "m_ch1" => (refine' ch_yes ?qqhl ?qqhc; (case qqhl => walk_at "m_lit"); (case qqhc => first | rfl | omega))
  k_with "m_ch0" => (refine' ch_no ?qqhl ?qqhc; (case qqhl => walk_at "m_lit"); (case qqhc => walk_at "m_ne"))
  k_with "compareOp Eq str str" => (k_here; (with_reducible show wpAny _ _ (compareOp _ (Value.str (Str.mk #[_]) _) _) _ _ _); k_dflt (first | (refine' eq_is (b := true) ?qqe ?_; (case qqe => walk_at "m_ch1")) | (refine' eq_is (b := false) ?qqe ?_; (case qqe => walk_at "m_ch0"))))
  k_with "compareOp NotEq str str" => (k_here; (with_reducible show wpAny _ _ (compareOp _ (Value.str (Str.mk #[_]) _) _) _ _ _); k_dflt (first | (refine' ne_is (b := true) ?qqe ?_; (case qqe => walk_at "m_ch1")) | (refine' ne_is (b := false) ?qqe ?_; (case qqe => walk_at "m_ch0"))))
  k_with "compareOp NotIn str ref" => (k_here; k_dflt (refine' notinL ?qqN ?qqm ?qqi ?qqv ?_; (case qqN => k_asm); (case qqm => k_mem); (case qqi => exact .cons _ _ (.cons _ _ (.cons _ _ .nil))); (case qqv => exact nb_any (by assumption) (by omega)); k_whole))
  k_with "ktr_rel" => (rw [sizeLine_eq]; (try simp only [PySem.Str.length_append, len1c, len_nl]); omega)
  k_with "inplaceOp Add str str" => (k_here; (refine PyProof.Rows.iadd_str (hsz := ?qqhsz) ?_); (case qqhsz => (walk_at "ktr_rel")); intro _ _)
  k_with "KswPost" => (refine held_off ?_)
  k_with "call builtin:len" => (k_here; (with_reducible show wpAny _ _ (call (Value.builtin "len") [Value.str _ _]) _ _ _); (fail_if_success (with_reducible show wpAny _ _ (call (Value.builtin "len") [Value.str (PySem.Str.ofString _) _]) _ _ _)); k_dflt (refine PySem.P.len_str (by omega) ?_))
  k_with "compareOp In str str" => (k_here; (with_reducible show wpAny _ _ (compareOp _ (Value.str (Str.mk #[_]) _) (Value.str (Str.ofString "0123456789") _)) _ _ _); k_dflt (first | (refine' in_is (b := true) ?qqe ?_; (case qqe => exact ⟨fun _ => by assumption, fun _ => rfl⟩)) | (refine' in_is (b := false) ?qqe ?_; (case qqe => exact ⟨fun h => (nomatch h), fun h => absurd h (by assumption)⟩))))
  k_with "call builtin:str.find" => (k_here; k_dflt (refine' find_ch ?qqhc ?_; (case qqhc => assumption); k_whole))
  k_with "call ref" => (k_here; k_dflt ((with_reducible show wpAny _ _ (call (Value.ref 115) _ _) _ _ _); (with_reducible rename ReadAll _ _ _ _ => ih'); refine' row_call (ih' _ _ ?qqhdi _ _ _ _ _ ?qqhw ?qqhp ?qqha) ?qqB ?qqF ?qqX ?qqN ?qqT ?qqhk ?qqhd ?qqhu ?qqhm ?qqhR ?qqsub ?_; (case qqha => assumption); (case qqhdi => assumption); (case qqhw => assumption); (case qqhp => assumption); (case qqB => k_asm); (case qqF => k_asm); (case qqX => k_asm); (case qqN => k_asm); (case qqT => k_asm); (case qqhk => exact rfl); (case qqhd => ktr_room); (case qqhu => ktr_units); (case qqhR => with_reducible assumption); (case qqhm => k_mem); (case qqsub => (intro p hp; (walk_at "tb_rel"))); k_whole; intro a' v' t' c' tl' h' tk' F' N' off' up' hma' hbd'; (try k_sweep)))
  k_with "call builtin:list.append" => (k_here; k_dflt (refine' appendP ?qqF ?qqN ?qqm ?qqR ?qqsub ?qqz ?_; (case qqF => k_asm); (case qqN => k_asm); (case qqR => with_reducible assumption); (case qqm => k_mem); (case qqsub => (intro p hp; (walk_at "tb_rel"))); (case qqz => omega); k_whole; intro h' F' N'; (try k_sweep)))
  k_with "compareOp NotEq ref ref" => (k_here; k_dflt (refine' ne_nil ?qqN ?qqm1 ?qqm2 ?qqb ?qqsub ?qqok ?qqdep ?qqhu ?qqe ?_; (case qqN => k_asm); (case qqb => assumption); (case qqm1 => k_mem); (case qqm2 => k_mem); (case qqsub => (intro p hp; repeat (first | exact List.mem_append_left _ hp | apply List.Mem.tail))); (case qqok => assumption); (case qqdep => assumption); (case qqhu => ktr_units); (case qqe => first | exact (by assumption : true = _) | exact (by assumption : false = _)); k_whole))
  k_with "call builtin:len" => (k_here; (with_reducible show wpAny _ _ (call (Value.builtin "len") [Value.ref _]) _ _ _); k_dflt (refine' lenL ?qqN ?qqm ?qqe ?qqz ?_; (case qqN => k_asm); (case qqm => k_mem); (case qqe => first | assumption | exact len_snoc (by assumption)); (case qqz => omega); k_whole))
  k_with "subscriptTail Name Constant ref int" => (k_here; k_dflt (first
  | ((with_reducible show wpAny _ _ (subscriptTail _ _ (Value.ref _) (Value.int 0 _)) _ _ _); refine' found0 ?qqN ?qqm ?_ ?qqa ?qqb; (case qqN => k_asm); (case qqm => k_mem); (case qqa => with_unfolding_all rfl); (case qqb => (intro _; with_unfolding_all rfl)); k_whole)
  | ((with_reducible show wpAny _ _ (subscriptTail _ _ (Value.ref _) (Value.int 1 _)) _ _ _); refine' found1 ?qqN ?qqm ?_ ?qqa ?qqb; (case qqN => k_asm); (case qqm => k_mem); (case qqa => with_unfolding_all rfl); (case qqb => (intro _; with_unfolding_all rfl)); k_whole)))
  k_with "call type:tuple" => (k_here; (with_reducible show wpAny _ _ (call (Value.type _) [Value.ref _]) _ _ _); k_dflt (refine' kde_tupleOf ?qqk1 ?qqk2 ?qqk3 ?qqk4 ?qqk5 ?_; (case qqk1 => k_asm); (case qqk2 => k_asm); (case qqk3 => exact News.isList (by k_asm) (by k_mem)); (case qqk4 => (simp only [List.size_toArray, List.length_append, List.length_cons, List.length_nil]; omega)); (case qqk5 => exact rfl); k_whole); intro D' h' F' N' qql1; (try k_lt qql1); (try k_sweep))
  k_with "exec For Name Name cons nil" => (k_here; refine wpAny_For ?_ (fun _ => rfl))
  k_with "compareOp NotEq str str" => (k_here; (with_reducible show wpAny _ _ (compareOp _ (Value.str (Txt.slice _ _ _) _) _) _ _ _); k_dflt (refine' ne_is (b := true) ?qqe ?_; (case qqe => (refine' sl_pc ?qqha ?qqhk; (case qqha => assumption); (case qqhk => exact sg_length _)))))
  k_with "inplaceOp Add ref ref" => (k_here; k_dflt (refine' iaddP (vs := [_, _]) (us := [_, _]) ?qqF ?qqN ?qqm ?qqb ?qqR ?qqsub ?qqz ?_; (case qqR => exact offLt (by assumption)); (case qqF => k_asm); (case qqN => k_asm); (case qqm => k_mem); (case qqb => k_mem); (case qqsub => (intro p hp; (walk_at "tb_rel"))); (case qqz => exact Nat.le_of_ble_eq_true rfl); k_whole; intro h' n' F' N'; (try simp only [List.cons_append, List.nil_append] at N'); (try k_sweep)))
  k_with "call ref" => (k_here; k_dflt ((with_reducible show wpAny _ _ (call (Value.ref 115) _ _) _ _ _); (with_reducible rename ReadAll _ _ _ _ => ih'); refine' row_call2 (ih' _ _ ?qqhdi _ _ _ _ _ ?qqhw ?qqhp ?qqha) ?qqB ?qqF ?qqX ?qqN ?qqT ?qqhk ?qqhd ?qqhu ?qqhm ?qqhR ?qqsub ?_; (case qqha => assumption); (case qqhdi => assumption); (case qqhw => assumption); (case qqhp => assumption); (case qqB => k_asm); (case qqF => k_asm); (case qqX => k_asm); (case qqN => k_asm); (case qqT => k_asm); (case qqhk => exact rfl); (case qqhd => ktr_room); (case qqhu => ktr_units); (case qqhR => with_reducible assumption); (case qqhm => k_mem); (case qqsub => (intro p hp; (walk_at "tb_rel"))); k_whole; intro a' v' t' c' tl' h' tk' F' N' off' up' hma' hbd' abR'; (try k_sweep)))
  trivial
theorem td_turn {d1 d2 d3 : PyData} {k1 k2 k3 k4 : Tok} {i : Nat} {v : Value} {words : Str} {pos : Int} {G : Prop} (hv : (#[.str pc1 k1, .str pc2 k2, .str pc3 k3, .str pc4 k4] : Array Value)[i]? = some v) (hat : AtR words pos (tdRest d1 d2 d3 i))
    (h : ∀ (pc : Str) (k : Tok) (d : PyData) (X : List Nat), v = .str pc k → AtR words pos (sg pc ++ (shC d ++ X)) → pc.length ≤ 100 → i < 4 → (tdD d1 d2 d3)[i]? = some d → (∀ c r, X = c :: r → ¬ isDg c) → X = tdRest d1 d2 d3 (i + 1) → G) : G := by
  rcases four_of hv with ⟨rfl, rfl⟩ | ⟨rfl, rfl⟩ | ⟨rfl, rfl⟩ | ⟨rfl, rfl⟩
  · exact h pc1 k1 d1 _ rfl hat (Nat.le_trans (Nat.le_of_eq pl1) (by decide)) (by decide) rfl (pc_sp pc2_sp) rfl
  · exact h pc2 k2 d2 _ rfl hat (Nat.le_trans (Nat.le_of_eq pl2) (by decide)) (by decide) rfl (pc_sp pc3_sp) rfl
  · exact h pc3 k3 (.int 10) _ rfl hat (Nat.le_trans (Nat.le_of_eq pl3) (by decide)) (by decide) rfl (pc_sp pc4_sp) rfl
  · exact h pc4 k4 d3 [] rfl (by simpa [tdRest] using hat) (Nat.le_trans (Nat.le_of_eq pl4) (by decide)) (by decide) rfl (fun c r e => by cases e) rfl
theorem told_spec {w : World} {d1 d2 d3 : PyData} {k : Tok} (ok1 : OkD d1) (ok2 : OkD d2) (ok3 : OkD d3) (h1 : d1.depth ≤ 40) (h2 : d2.depth ≤ 40) (h3 : d3.depth ≤ 40) (l1 : (shC d1).length ≤ 1000) (l2 : (shC d2).length ≤ 1000) (l3 : (shC d3).length ≤ 1000) :
   C3 w 127 290 1200 [.str (told3 d1.shown d2.shown d3.shown) k] [] (fun _ => True) (fun tl r => Bd tl (.list (tdD d1 d2 d3)) r) := by
  have ok10 : OkD (.int 10) := by simp only [OkD]; decide
  have IH : ReadAll w (tdD d1 d2 d3) 260 1100 := by
    intro i d hi words n post k k2 hw hp ha
    have hd : OkD d ∧ d.depth ≤ 40 ∧ (shC d).length ≤ 1000 := by
      match i, hi with
      | 0, hi => cases hi; exact ⟨ok1, h1, l1⟩
      | 1, hi => cases hi; exact ⟨ok2, h2, l2⟩
      | 2, hi => cases hi; exact ⟨ok10, by simp only [PyData.depth]; omega, by rw [shC_pos (by decide)]; decide +kernel⟩
      | 3, hi => cases hi; exact ⟨ok3, h3, l3⟩
    exact read_ok hd.1 hd.2.1 hd.2.2 hw hp ha
  have hsg := told3_sg d1 d2 d3
  generalize hwo : told3 d1.shown d2.shown d3.shown = words at hsg
  have hw : words.length ≤ 100000 := by
    rw [← sg_length, hsg]
    simp only [tdRest, List.length_append]
    have e1 : (sg pc1).length = 55 := pl1
    have e2 : (sg pc2).length = 12 := pl2
    have e3 : (sg pc3).length = 62 := pl3
    have e4 : (sg pc4).length = 19 := pl4
    have e5 : (shC (.int 10)).length = 2 := by rw [shC_pos (by decide)]; decide +kernel
    omega
  have ha0 : AtR words 0 (tdRest d1 d2 d3 0) := hsg ▸ AtR.start words
  clear hsg hwo
  unfold C3 Callee
  k_fill
  intro loose mean mg mb dp un cn cs a ccd cl outer A₀ base h₀ L m news s Q E B F X N T hk hrel hd9 hu9 hret
  refine wpAny_call ?_
  k_dflt ktr_enter
  k_steps
  (rename Fr _ _ _ _ => lF); (rename News _ _ _ _ => lN); (rename (∀ p ∈ news, p.1 < _) => l1); (rename (_ < _ ∧ AllLt _ news) => l2)
  refine' td_iter (D := tdD d1 d2 d3) (rest := tdRest d1 d2 d3) (words := words) (n := 4) ?hn ?hh lF lN ?hat ha0 ?hl ?hnw ?hx ?hp ?turn ?done ?po
  case hn => rfl
  case hh => rfl
  case hx => rfl
  case hp => rfl
  case hat => rfl
  case po => passes_own
  case hl => exact l2.1
  case hnw => exact tb_ltOf l2.2
  case turn =>
    intro I c v h tk oI u hv hc hoff hI
    have hat := hc.1
    have hvl := hc.2.1
    refine td_turn hv hat fun pc kp d X ev hat1 hpl hi4 hdi hpost hX => ?_
    clear lF lN hv hat
    subst ev
    intro F9 N9
    replace N9 := news_swap N9
    have hat2 : AtR words (c.pos + ((pc.length : Nat) : Int)) (shC d ++ X) := by have h9 := hat1.skip; rwa [sg_length] at h9
    have hat3 := hat2.skip
    rw [hX] at hat3
    k_steps
    (rename Bd _ d _ => hbd9); (rename (∀ p : Addr × Obj, p ∈ _ → _ < p.1) => up9); (rename OffP _ (_ ++ (_ :: _)) => off9); (rename (∀ p : Addr × Obj, p ∈ _ → ∀ q : Addr × Obj, q ∈ _ → q.1 < p.1) => ab9)
    refine' td_end (c := c) (d := d) ?F0 ?N0 ?hm0 ?sub0 hc hI ?hIt0 hdi hbd9 off9 up9 ?ha0 ?hat0 ?hr0
    case F0 => k_asm
    case N0 => k_asm
    case hm0 => k_mem
    case sub0 => (intro p hp; (walk_at "tb_rel"))
    case hIt0 => exact fun p hp => Nat.ne_of_gt (ab9 p hp _ (List.Mem.head _))
    case ha0 => exact hat3
    case hat0 => rfl
    case hr0 => (intro z h1 h2 h3; simp only [if_neg h1, if_neg h2, if_neg h3])
  case done =>
    intro c u1 u2 h tk hi hc F9 N9
    clear lF lN
    have hat := hc.1
    have hvl := hc.2.1
    have hbd := hc.2.2.1
    have hup := hc.2.2.2.2
    rw [hi] at hat hbd
    have hend : c.pos = words.length := by have h9 := hat.2.1; simpa [tdRest] using h9
    have hnn := hat.1
    have l2' := tb_ltOf l2.2
    dsimp only
    k_steps
    · (rename Fr _ _ _ _ => lF'); (rename News _ _ _ _ => lN')
      refine' told_ret (more := c.more) hret lF' lN' ?hm ?sub l2' hup ?bd
      case hm => k_mem
      case sub => (intro p hp; (walk_at "tb_rel"))
      case bd => (simp only [Bd]; exact ⟨_, c.vs, c.cap, rfl, List.Mem.head _, BdAll.mono (fun p hp => List.Mem.tail _ hp) hbd⟩)
    all_goals exact absurd hend (by assumption)
end Mine
end
theorem Mine.kw_F13 : True := by
  k_with_none
  trivial
section

open PySem PySem.W PyProof.Rows PySem.Calls PySem.Spec
set_option maxRecDepth 100000
set_option maxHeartbeats 400000
namespace Mine
/-- what the stack's data weigh -/
noncomputable def phi : List PyData → Nat
  | [] => 0
  | d :: ds => (shC d).length + 2 + phi ds
theorem phi_append (a b : List PyData) : phi (a ++ b) = phi a + phi b := by
  induction a with
  | nil => simp [phi]
  | cons d a ih => simp only [List.cons_append, phi, ih]; omega
theorem phi_take_drop (ds : List PyData) (n : Nat) : phi (ds.take n) + phi (ds.drop n) = phi ds := by
  rw [← phi_append, List.take_append_drop]
theorem sepC_phi : ∀ ds : List PyData, (sepC ds).length = phi ds
  | [] => rfl
  | d :: ds => by simp only [sepC, phi, List.length_cons, List.length_append, sepC_phi ds]; omega
theorem joinC_phi (ds : List PyData) : (joinC ds).length ≤ phi ds := by
  cases ds with
  | nil => simp [joinC, phi]
  | cons d ds => simp only [joinC, phi, List.length_append, sepC_phi]; omega
theorem phi_list (ds : List PyData) : (shC (.list ds)).length ≤ phi ds + 2 := by
  have := joinC_phi ds
  rw [shC_list]; simp; omega
theorem phi_tuple (ds : List PyData) : (shC (.tuple ds)).length ≤ phi ds + 3 := by
  have := joinC_phi ds
  rw [shC_tuple]; split <;> simp <;> omega
structure StS where
  P : Nat
  vs : List Value
  cap : Nat
  more : List (Addr × Obj)
  ds : List PyData
noncomputable def StOk (news : List (Addr × Obj)) (i : Nat) (c : StS) : Prop :=
  BdAll c.more c.ds c.vs ∧ OkAll c.ds ∧ c.ds ≠ [] ∧ c.ds.length ≤ i + 2 ∧ PyData.depthAll c.ds ≤ i ∧ phi c.ds ≤ 30 + 13 * i ∧ OffP c.P (c.more ++ news) ∧ (∀ p ∈ c.more, ∀ q ∈ news, q.1 < p.1) ∧ ∀ q ∈ news, q.1 < c.P
noncomputable def StJ (news : List (Addr × Obj)) (i : Nat) (m : Str → Option Value) (nx : List (Addr × Obj)) : Prop :=
  ∃ c : StS, nx = (c.P, W.listOf c.vs.toArray c.cap) :: (c.more ++ news) ∧ StOk news i c ∧ m (Str.ofString "stack") = some (.ref c.P)
section
variable {prog : Program} {w : World} {A : Around} {E : Value → Shared → Prop} {s : Shared} {env : Env} {h₀ : Heap} {Q : Flow → Shared → Prop} {body : List Stmt} {news : List (Addr × Obj)}
theorem st_iter {ax : Addr} {ws : List Value} {ns : List Int} {n0 : Nat} {px : Pos} {m₀ : Str → Option Value} {c₀ : StS} (hI : IntsAre ws ns) (hh : A.handled = none) (F : Fr h₀ env.locals s.heap m₀) (N : News h₀ env.locals s.heap ((c₀.P, W.listOf c₀.vs.toArray c₀.cap) :: (c₀.more ++ news))) (hm : (ax, listOf ws.toArray n0) ∈ news)
    (h0 : StOk news 0 c₀) (hst : m₀ (Str.ofString "stack") = some (.ref c₀.P))
    (hx : env.kindOf (Str.ofString "x") = some .local) (hp : (env.scope.kind == .class || (env.scope.kind == .module && env.locals != env.globals)) = false)
    (turn : ∀ (I : Nat) (i : Nat) (c : StS) (n : Int) (t : Tok) (h : Heap) (tk : Nat) (oI : Obj) (m₁ : Str → Option Value), i < ns.length → StOk news i c → (∀ p ∈ (c.P, W.listOf c.vs.toArray c.cap) :: (c.more ++ news), p.1 ≠ I) →
      Fr h₀ env.locals h (fun z => if z = Str.ofString "x" then some (.int n t) else if z = Str.ofString "stack" then some (.ref c.P) else m₁ z) → News h₀ env.locals h ((c.P, W.listOf c.vs.toArray c.cap) :: (I, oI) :: (c.more ++ news)) →
      wpAny (model prog w) A (execs body env) (TurnQ h₀ env.locals I [(I, oI)] (StJ news (i + 1)) s Q) E { s with heap := h, toks := tk })
    (done : ∀ (c : StS) (m₁ : Str → Option Value) h tk, StOk news ns.length c → Fr h₀ env.locals h (fun z => if z = Str.ofString "stack" then some (.ref c.P) else m₁ z) → News h₀ env.locals h ((c.P, W.listOf c.vs.toArray c.cap) :: (c.more ++ news)) → Q .next { s with heap := h, toks := tk })
    (hE : PassesOwn (model prog w) A env E) :
    wpAny (model prog w) A (pyIter (.ref ax)) (fun it s₂ => codeAny (model prog w) A (.forLoop (.Name (Str.ofString "x") px) it body [] env) (fun r s' => match r with | .ok f => Q f s' | .error e => cameBackBy (model prog w) A env E e s') s₂) E s := by
  have eqm : ∀ (m₁ : Str → Option Value) (a : Option Value), m₁ (Str.ofString "stack") = a → m₁ = fun z => if z = Str.ofString "stack" then a else m₁ z := by
    intro m₁ a ea
    funext z
    by_cases h2 : z = Str.ofString "stack"
    · rw [if_pos h2, h2, ea]
    · rw [if_neg h2]
  have hlen := hI.length
  have hmx : (ax, listOf ws.toArray n0) ∈ (c₀.P, W.listOf c₀.vs.toArray c₀.cap) :: (c₀.more ++ news) := List.Mem.tail _ (List.mem_append_right _ hm)
  have hls : s.heap.IsList ax ws.toArray := ⟨_, (N _ hmx).1, rfl, _, rfl⟩
  refine wpAny_pyIter_list hls ?_
  have hlt : ax < s.heap.objs.size := Heap.lt_size (N _ hmx).1
  refine forOwnL (oa := listOf ws.toArray n0) (s := { s with heap := s.heap.push _ }) (Walks.list hh s.heap.objs.size ax (Nat.ne_of_lt hlt) ws.toArray) ?_ (Nat.ne_of_lt F.ns.lt) ⟨⟨_, Heap.get?_push_size _ rfl, rfl, rfl⟩, hls.at fun o e => Heap.get?_push_of_some _ e⟩ (F.push _) (fun p hp => ⟨Heap.get?_push_of_some _ (N p hp).1, (N p hp).2⟩) (fun p hp => Nat.ne_of_lt (Heap.lt_size (N p hp).1))
    (fun i h st => by obtain ⟨o, e, _⟩ := st.1; exact ⟨o, e⟩) (fun i m nx => StJ news i m nx) (fun _ _ _ j => by obtain ⟨c, rfl, _⟩ := j; exact List.Mem.tail _ (List.mem_append_right _ hm)) ⟨c₀, rfl, h0, hst⟩ ?_ ?_ hE (fun _ => rfl)
  · exact next_is_new F
  · rintro i v m₁ nx h tk oI hi hv ⟨c, rfl, hc, e1⟩ ha F₁ N₁
    refine wpAny_assign_Name (wpAny_storeName_local hx F₁.ns (fun h₂ hn₂ hs₂ => ?_) hp)
    have F₂ := F₁.set hn₂ hs₂
    have hv' : ws[i]? = some v := by simpa using hv
    obtain ⟨n, t, rfl⟩ : ∃ n t, v = .int n t := by
      have key : ∀ {ws : List Value} {ns : List Int} {i : Nat} {v : Value}, IntsAre ws ns → ws[i]? = some v → ∃ n t, v = .int n t := by
        intro ws ns i v h
        induction h generalizing i with
        | nil => intro e; simp at e
        | cons n t _ ih =>
          intro e
          cases i with
          | zero => simp at e; exact ⟨n, t, e.symm⟩
          | succ i => exact ih (by simpa using e)
      exact key hI hv'
    have e : (fun z => if z = Str.ofString "x" then some (Value.int n t) else m₁ z) = fun z => if z = Str.ofString "x" then some (.int n t) else if z = Str.ofString "stack" then some (.ref c.P) else m₁ z := by
      funext z
      by_cases h1 : z = Str.ofString "x"
      · rw [if_pos h1, if_pos h1]
      · rw [if_neg h1, if_neg h1]
        exact congrFun (eqm m₁ _ e1) z
    rw [e] at F₂
    have hil : i < ns.length := by
      have h9 : i < ws.length := by simpa using hi
      omega
    refine turn _ i c n t h₂ _ oI m₁ hil hc ha F₂ (fun p hp => (N₁.set hs₂) p ?_)
    rcases List.mem_cons.mp hp with rfl | hp
    · exact .tail _ (.head _)
    rcases List.mem_cons.mp hp with rfl | hp
    · exact .head _
    exact .tail _ (.tail _ hp)
  · rintro m₁ nx h tk ⟨c, rfl, hc, e1⟩ F₁ N₁
    rw [eqm m₁ _ e1] at F₁
    have hs : ws.toArray.size = ns.length := by rw [List.size_toArray]; exact hlen
    exact done c m₁ h tk (hs ▸ hc) F₁ N₁
end
noncomputable abbrev st0a : Str := Str.ofString "{0}"
noncomputable abbrev st0b : Str := Str.ofString "it's"
theorem st0a_sg : sg st0a = [123, 48, 125] := by decide +kernel
theorem st0b_sg : sg st0b = [105, 116, 39, 115] := by decide +kernel
theorem okT_of {x : Str} {l : List Nat} (h : sg x = l) (hl : ∀ c ∈ l, c = 10 ∨ (32 ≤ c ∧ c < 127)) : okText x := fun c hc => by
  have : c ∈ sg x := hc
  rw [h] at this
  exact hl c this
theorem st_start {news : List (Addr × Obj)} {P : Nat} {t1 t2 : Tok} (l1 : ∀ p ∈ news, p.1 < P) : StOk news 0 ⟨P, [.str st0a t1, .str st0b t2], 0, [], [.str st0a, .str st0b]⟩ := by
  have oka : okText st0a := okT_of st0a_sg (by decide)
  have okb : okText st0b := okT_of st0b_sg (by decide)
  have la : st0a.length = 3 := by rw [← sg_length, st0a_sg]; rfl
  have lb : st0b.length = 4 := by rw [← sg_length, st0b_sg]; rfl
  have ra := reprText_length oka
  have rb := reprText_length okb
  refine ⟨?_, ?_, by simp, by simp, by simp [PyData.depthAll, PyData.depth], ?_, fun p hp => Nat.ne_of_lt (l1 p (by simpa using hp)), fun p hp => absurd hp List.not_mem_nil, l1⟩
  · simp only [BdAll, Bd]
    exact ⟨_, _, rfl, ⟨_, rfl⟩, _, _, rfl, ⟨_, rfl⟩, rfl⟩
  · simp only [OkAll, OkD]
    exact ⟨⟨oka, by omega⟩, ⟨okb, by omega⟩, trivial⟩
  · simp only [phi]
    have e1 : (shC (.str st0a)).length ≤ 8 := by rw [shC, PyData.shown_str, sg_length]; omega
    have e2 : (shC (.str st0b)).length ≤ 10 := by rw [shC, PyData.shown_str, sg_length]; omega
    omega
/-- a plain value of the stack, and its datum -/
noncomputable def ScOk (v : Value) (d : PyData) : Prop := Bd [] d v ∧ OkD d ∧ d.depth = 0 ∧ (shC d).length ≤ 11
theorem sc_none : ScOk .none .none := ⟨by simp only [Bd], by simp only [OkD], by simp only [PyData.depth], by rw [shC_none]; decide⟩
theorem sc_bool (b : Bool) : ScOk (.bool b) (.bool b) := ⟨by simp only [Bd], by simp only [OkD], by simp only [PyData.depth], by cases b; rw [shC_false]; decide; rw [shC_true]; decide⟩
theorem dg_len : ∀ (k n : Nat), n < 10 ^ (k + 1) → (dg n).length ≤ k + 1
  | 0, n, h => by rw [dg_lt (by omega)]; simp
  | k + 1, n, h => by
    by_cases h10 : n < 10
    · rw [dg_lt h10]; simp
    · rw [dg_ge (by omega)]
      have := dg_len k (n / 10) (by rw [Nat.pow_succ] at h; omega)
      simp; omega
theorem sc_int {n : Int} {t : Tok} (h : n.natAbs < 1000000) : ScOk (.int n t) (.int n) := by
  have hl := dg_len 5 n.natAbs (by omega)
  refine ⟨by simp only [Bd]; exact ⟨_, rfl⟩, by simp only [OkD]; exact h, by simp only [PyData.depth], ?_⟩
  by_cases hz : 0 ≤ n
  · rw [shC_pos hz]; omega
  · rw [shC_neg (by omega)]; simp; omega
theorem sc_str {x : Str} {t : Tok} (h : okText x) (hl : x.length ≤ 4) : ScOk (.str x t) (.str x) := by
  refine ⟨by simp only [Bd]; exact ⟨_, rfl⟩, by simp only [OkD]; exact ⟨h, hl⟩, by simp only [PyData.depth], ?_⟩
  have := reprText_length h
  rw [shC, PyData.shown_str, sg_length]; omega
section
variable {prog : Program} {w : World} {A : Around} {E : Value → Shared → Prop} {s : Shared} {h₀ : Heap} {L l : Addr} {m : Str → Option Value} {news R : List (Addr × Obj)}
theorem item3 {value slice : Expr} {k : Nat} {i : Int} {u : Tok} {Q : Value → Shared → Prop} (N : News h₀ L s.heap news) (hm : (l, W.listOf #[.none, .bool true, .bool false] k) ∈ news) (h0 : 0 ≤ i) (h3 : i < 3) (h : ∀ v d, ScOk v d → Q v s)
    (hs : subscripted slice false (.ref l) (.int i u) = operate [.ref l, .int i u] (getItem (.ref l) (.int i u))) (hg : ∀ r, letTemporaryGo value (.ref l) r = pure ()) :
    wpAny (model prog w) A (subscriptTail value slice (.ref l) (.int i u)) Q E s := by
  have hc : i.toNat = 0 ∨ i.toNat = 1 ∨ i.toNat = 2 := by omega
  rcases hc with e | e | e
  · exact item_list (items := #[.none, .bool true, .bool false]) ⟨_, (N _ hm).1, rfl, _, rfl⟩ h0 (by omega) (by rw [e]; rfl) (h _ _ sc_none) hs hg
  · exact item_list (items := #[.none, .bool true, .bool false]) ⟨_, (N _ hm).1, rfl, _, rfl⟩ h0 (by omega) (by rw [e]; rfl) (h _ _ (sc_bool true)) hs hg
  · exact item_list (items := #[.none, .bool true, .bool false]) ⟨_, (N _ hm).1, rfl, _, rfl⟩ h0 (by omega) (by rw [e]; rfl) (h _ _ (sc_bool false)) hs hg
end
theorem fmod_in (n : Int) {k : Int} (hk : 0 < k) : 0 ≤ Int.fmod n k ∧ Int.fmod n k < k := ⟨Int.fmod_nonneg_of_pos _ hk, Int.fmod_lt_of_pos _ hk⟩
end Mine
end
section

open PySem PySem.W PyProof.Rows PySem.Calls PySem.Spec
set_option maxRecDepth 100000
set_option maxHeartbeats 400000
namespace Mine
theorem sizes {L R : Int} (h0 : 0 ≤ L) (hR : 0 ≤ R) : 0 ≤ L - (if L < R then L else R) ∧ L - (if L < R then L else R) ≤ L := by split <;> omega
theorem pick_from {vs : List Value} {x : Int} {n : Nat} (h : 0 ≤ x ∧ x ≤ (n : Int)) (hl : vs.length = n) : kms_pick vs.toArray.toList (some x) none = vs.drop x.toNat := by
  have e : vs.toArray.toList = vs := rfl
  rw [e]
  unfold kms_pick kms_lo kms_hi
  simp only [if_neg (show ¬ x < 0 by omega)]
  rw [Nat.min_eq_left (by omega)]
  rw [List.take_of_length_le (by rw [List.length_drop]; omega)]
theorem pick_upto {vs : List Value} {x : Int} {n : Nat} (h : 0 ≤ x ∧ x ≤ (n : Int)) (hl : vs.length = n) : kms_pick vs.toArray.toList none (some x) = vs.take x.toNat := by
  have e : vs.toArray.toList = vs := rfl
  rw [e]
  unfold kms_pick kms_lo kms_hi
  simp only [if_neg (show ¬ x < 0 by omega), List.drop_zero, Nat.sub_zero]
  rw [Nat.min_eq_left (by omega)]
section
variable {prog : Program} {w : World} {A : Around} {E : Value → Shared → Prop} {s : Shared} {h₀ : Heap} {L I : Addr} {m : Str → Option Value} {l news : List (Addr × Obj)}
theorem addP {a b : Addr} {vs us : List Value} {n n2 : Nat} {Q : Value → Shared → Prop} (F : Fr h₀ L s.heap m) (N : News h₀ L s.heap l) (hm : (a, W.listOf vs.toArray n) ∈ l) (hb : (b, W.listOf us.toArray n2) ∈ l) (hz : vs.length + us.length ≤ 100000)
    (h : ∀ D h', Fr h₀ L h' m → News h₀ L h' ((D, W.listOf (vs ++ us).toArray 0) :: l) → (∀ p ∈ l, p.1 < D) → Q (.ref D) { s with heap := h' }) : wpAny (model prog w) A (binaryOp .Add (.ref a) (.ref b)) Q E s := by
  have ha := (N _ hm).1
  have hb' := (N _ hb).1
  have g := AutoSeq1.list___add___list_list_0 a vs.toArray n b us.toArray n2 (by rw [List.size_toArray, List.size_toArray, sizeLine_eq]; omega)
  refine concat_meets ⟨_, ha, rfl⟩ ⟨_, hb', rfl⟩ PySem.noFill_list_add PySem.seq_list_add PySem.F.slot_list_add PySem.F.entry_list_add (PySem.F.args_list_add_2 _ _) g ⟨ha, hb', ?_⟩
  have N' := N.push F (W.listOf (vs ++ us).toArray 0)
  have F' := F.push (W.listOf (vs ++ us).toArray 0)
  have e : ({ cls := Value.type "list", data := Data.seq (vs.toArray ++ us.toArray) } : Obj) = W.listOf (vs ++ us).toArray 0 := by rw [List.append_toArray]
  rw [e]
  exact h _ _ F' N' fun p hp => Heap.lt_size (N p hp).1
theorem st_end {i : Nat} {oI : Obj} {m' : Str → Option Value} {h' : Heap} {tk : Nat} (c : StS) (F : Fr h₀ L h' m') (N : News h₀ L h' l) (hm : (c.P, W.listOf c.vs.toArray c.cap) ∈ l) (hI0 : (I, oI) ∈ l) (sub : ∀ p ∈ c.more ++ news, p ∈ l) (hI : c.P ≠ I) (hI2 : ∀ p ∈ c.more ++ news, p.1 ≠ I) (hok : StOk news i c) (hst : m' (Str.ofString "stack") = some (.ref c.P)) :
    TurnNext h₀ L I [(I, oI)] (StJ news i) s { s with heap := h', toks := tk } := by
  refine ⟨h', tk, m', (c.P, W.listOf c.vs.toArray c.cap) :: (c.more ++ news), rfl, F, ?_, ?_, c, rfl, hok, hst⟩
  · intro p hp
    rcases List.mem_cons.mp hp with rfl | hp
    · exact N _ hI0
    rcases List.mem_cons.mp hp with rfl | hp
    · exact N _ hm
    exact N p (sub p hp)
  · intro p hp
    rcases List.mem_cons.mp hp with rfl | hp
    · exact hI
    · exact hI2 p hp
end
theorem depth_snoc (ds : List PyData) (d : PyData) : PyData.depthAll (ds ++ [d]) = max (PyData.depthAll ds) d.depth := by
  rw [depth_append]; simp [PyData.depthAll]
theorem st_push {news : List (Addr × Obj)} {i : Nat} {c : StS} {v : Value} {d : PyData} {cap : Nat} (h : StOk news i c) (hs : ScOk v d) : StOk news (i + 1) ⟨c.P, c.vs ++ [v], cap, c.more, c.ds ++ [d]⟩ := by
  obtain ⟨h1, h2, h3, h4, h5, h6, h7, h8, h9⟩ := h
  obtain ⟨s1, s2, s3, s4⟩ := hs
  refine ⟨BdAll.snoc h1 (Bd.mono (fun p hp => absurd hp List.not_mem_nil) s1), OkAll.append h2 (by simp only [OkAll]; exact ⟨s2, trivial⟩), by simp, by simp; omega, ?_, ?_, h7, h8, h9⟩
  · dsimp only; rw [depth_snoc, s3]; omega
  · dsimp only; rw [phi_append]; simp only [phi]; omega
theorem st_wrap {news : List (Addr × Obj)} {i k : Nat} {c : StS} {T D : Nat} {o : Obj} {dn : PyData} {cap : Nat} (h : StOk news i c) (hb : ∀ {R : List (Addr × Obj)}, BdAll R (c.ds.drop k) (c.vs.drop k) → Bd ((T, o) :: R) dn (.ref T)) (hok : OkAll (c.ds.drop k) → OkD dn) (hdp : dn.depth = PyData.depthAll (c.ds.drop k) + 1) (hph : (shC dn).length ≤ phi (c.ds.drop k) + 3)
    (hT : ∀ q ∈ news, q.1 < T) (hD : ∀ p ∈ (T, o) :: (c.more ++ news), p.1 < D) : StOk news (i + 1) ⟨D, c.vs.take k ++ [.ref T], cap, (T, o) :: c.more, c.ds.take k ++ [dn]⟩ := by
  obtain ⟨h1, h2, h3, h4, h5, h6, h7, h8, h9⟩ := h
  have hpt := phi_take_drop c.ds k
  have hd1 := depth_take c.ds k
  have hd2 := depth_drop c.ds k
  refine ⟨BdAll.snoc (BdAll.mono (fun p hp => List.Mem.tail _ hp) (BdAll.take k h1)) (hb (BdAll.drop k h1)), OkAll.append (OkAll.take k h2) (by simp only [OkAll]; exact ⟨hok (OkAll.drop k h2), trivial⟩), by simp, ?_, ?_, ?_, ?_, ?_, ?_⟩
  · dsimp only; rw [List.length_append, List.length_take]; simp; omega
  · dsimp only; rw [depth_snoc, hdp]; omega
  · dsimp only; rw [phi_append]; simp only [phi]; omega
  · intro p hp; exact Nat.ne_of_lt (hD p hp)
  · intro p hp q hq
    rcases List.mem_cons.mp hp with rfl | hp
    · exact hT q hq
    · exact h8 p hp q hq
  · intro q hq; exact hD q (List.Mem.tail _ (List.mem_append_right _ hq))
theorem sc_fm {x k : Int} {t : Tok} (hk : 0 < k) (hk2 : k ≤ 1000000) : ScOk (.int (Int.fmod x k) t) (.int (Int.fmod x k)) := sc_int (by have := fmod_in x hk; omega)
theorem sc_fmn {x k : Int} {t : Tok} (hk : 0 < k) (hk2 : k ≤ 1000000) : ScOk (.int (-(Int.fmod x k)) t) (.int (-(Int.fmod x k))) := sc_int (by have := fmod_in x hk; omega)
section
variable {s : Shared} {h₀ h' : Heap} {L : Addr} {I : Nat} {l news : List (Addr × Obj)} {i : Nat} {oI : Obj} {m' : Str → Option Value} {tk : Nat} {c : StS}
theorem st_endP {v : Value} {d : PyData} (hc : StOk news i c) (hIo : ∀ p ∈ (c.P, W.listOf c.vs.toArray c.cap) :: (c.more ++ news), p.1 ≠ I) (F : Fr h₀ L h' m') (N : News h₀ L h' l) (hm : (c.P, W.listOf (c.vs ++ [v]).toArray (c.cap + 1)) ∈ l) (hI0 : (I, oI) ∈ l) (sub : ∀ p ∈ c.more ++ news, p ∈ l) (hs : ScOk v d) (hst : m' (Str.ofString "stack") = some (.ref c.P)) :
    TurnNext h₀ L I [(I, oI)] (StJ news (i + 1)) s { s with heap := h', toks := tk } :=
  st_end ⟨c.P, c.vs ++ [v], c.cap + 1, c.more, c.ds ++ [d]⟩ F N hm hI0 sub (hIo _ (List.Mem.head _)) (fun p hp => hIo p (List.Mem.tail _ hp)) (st_push hc hs) hst
theorem st_endW {k T D : Nat} {o : Obj} {dn : PyData} (hc : StOk news i c) (hIo : ∀ p ∈ (c.P, W.listOf c.vs.toArray c.cap) :: (c.more ++ news), p.1 ≠ I) (hb : ∀ {R : List (Addr × Obj)}, BdAll R (c.ds.drop k) (c.vs.drop k) → Bd ((T, o) :: R) dn (.ref T)) (hok : OkAll (c.ds.drop k) → OkD dn) (hdp : dn.depth = PyData.depthAll (c.ds.drop k) + 1) (hph : (shC dn).length ≤ phi (c.ds.drop k) + 3)
    (F : Fr h₀ L h' m') (N : News h₀ L h' l) (hm : (D, W.listOf (c.vs.take k ++ [Value.ref T]).toArray 0) ∈ l) (hT : (T, o) ∈ l) (hI0 : (I, oI) ∈ l) (sub : ∀ p ∈ c.more ++ news, p ∈ l) (hTI : T ≠ I) (hDI : D ≠ I) (hTD : T < D) (hTn : ∀ p ∈ c.more ++ news, p.1 < T) (hst : m' (Str.ofString "stack") = some (.ref D)) :
    TurnNext h₀ L I [(I, oI)] (StJ news (i + 1)) s { s with heap := h', toks := tk } := by
  refine st_end ⟨D, c.vs.take k ++ [.ref T], 0, (T, o) :: c.more, c.ds.take k ++ [dn]⟩ F N hm hI0 ?_ hDI ?_ (st_wrap hc hb hok hdp hph (fun q hq => hTn q (List.mem_append_right _ hq)) ?_) hst
  · intro p hp
    rcases List.mem_cons.mp hp with rfl | hp
    · exact hT
    · exact sub p hp
  · intro p hp
    rcases List.mem_cons.mp hp with rfl | hp
    · exact hTI
    · exact hIo p (List.Mem.tail _ hp)
  · intro p hp
    rcases List.mem_cons.mp hp with rfl | hp
    · exact hTD
    · exact Nat.lt_trans (hTn p hp) hTD
theorem st_endL {k T D cT : Nat} (hc : StOk news i c) (hIo : ∀ p ∈ (c.P, W.listOf c.vs.toArray c.cap) :: (c.more ++ news), p.1 ≠ I)
    (F : Fr h₀ L h' m') (N : News h₀ L h' l) (hm : (D, W.listOf (c.vs.take k ++ [Value.ref T]).toArray 0) ∈ l) (hT : (T, W.listOf (c.vs.drop k).toArray cT) ∈ l) (hI0 : (I, oI) ∈ l) (sub : ∀ p ∈ c.more ++ news, p ∈ l) (hTI : T ≠ I) (hDI : D ≠ I) (hTD : T < D) (hTn : ∀ p ∈ c.more ++ news, p.1 < T) (hst : m' (Str.ofString "stack") = some (.ref D)) :
    TurnNext h₀ L I [(I, oI)] (StJ news (i + 1)) s { s with heap := h', toks := tk } :=
  st_endW (dn := .list (c.ds.drop k)) hc hIo (fun hR => by simp only [Bd]; exact ⟨_, _, _, rfl, List.Mem.head _, BdAll.mono (fun p hp => List.Mem.tail _ hp) hR⟩) (fun h => by simp only [OkD]; exact h) (by simp only [PyData.depth]) (by have := phi_list (c.ds.drop k); omega) F N hm hT hI0 sub hTI hDI hTD hTn hst
theorem st_endT {k T D cT : Nat} (hc : StOk news i c) (hIo : ∀ p ∈ (c.P, W.listOf c.vs.toArray c.cap) :: (c.more ++ news), p.1 ≠ I)
    (F : Fr h₀ L h' m') (N : News h₀ L h' l) (hm : (D, W.listOf (c.vs.take k ++ [Value.ref T]).toArray 0) ∈ l) (hT : (T, ({ cls := .type "tuple", data := .seq (c.vs.drop k).toArray cT } : Obj)) ∈ l) (hI0 : (I, oI) ∈ l) (sub : ∀ p ∈ c.more ++ news, p ∈ l) (hTI : T ≠ I) (hDI : D ≠ I) (hTD : T < D) (hTn : ∀ p ∈ c.more ++ news, p.1 < T) (hst : m' (Str.ofString "stack") = some (.ref D)) :
    TurnNext h₀ L I [(I, oI)] (StJ news (i + 1)) s { s with heap := h', toks := tk } :=
  st_endW (dn := .tuple (c.ds.drop k)) hc hIo (fun hR => by simp only [Bd]; exact ⟨_, _, _, rfl, List.Mem.head _, BdAll.mono (fun p hp => List.Mem.tail _ hp) hR⟩) (fun h => by simp only [OkD]; exact h) (by simp only [PyData.depth]) (by have := phi_tuple (c.ds.drop k); omega) F N hm hT hI0 sub hTI hDI hTD hTn hst
end
end Mine
end
section

open PySem PySem.W PyProof.Rows PySem.Calls PySem.Spec
namespace Mine
theorem kw_S12 : True := by
  k_with_none
  trivial
theorem kw_S12_26 : True := by
  k_with "ktr_room" => (simp only [depth_under_make, depth_under_kw, depth_in1, depth_deeper, depth_caller, ktrTop]; omega)
  k_with "ktr_units" => (simp only [units_in1, units_deeper, Around.mark_units, units_caller, ktrTop]; omega)
  k_with "k_room" => ktr_room
  k_with "k_units" => ktr_units
  k_with "tb_rel" => (repeat (first | assumption | apply List.Mem.tail))
  k_with "k_all" => (first | refine allBelow (by assumption) ?_ | refine allBelow (tb_ltOf (by assumption)) ?_); (try dsimp only); omega
  k_with "k_mem" => first | exact List.Mem.head _ | assumption | (refine' List.Mem.tail _ ?_; k_mem)
  trivial
set_option maxRecDepth 100000
set_option maxHeartbeats 1000000

theorem kw_S12_27 : True := by
  k_with "m_enterC" => (refine' code_defC ?qqk1 ?qqk2 ?qqk3 ?qqk4 ?qqk5 ?qqkA ?qqkF ?qqkK ?qqk6 ?qqk7 ?qqk8 ?qqk9 ?qqkB ?qqkD ?_ ?qqc2 ?qqc3 ?qqc4; (case qqkA => exact rfl); (case qqkF => exact rfl); (case qqkK => assumption); (case qqk1 => k_asm); (case qqk2 => k_asm); (case qqk3 => k_asm); (case qqk4 => k_asm); (case qqk5 => k_asm); (case qqk6 => k_is); (case qqk7 => k_is); (case qqk8 => ktr_room); (case qqk9 => exact BindsTo.of_eq rfl); (case qqkB => exact rfl); (case qqkD => decide +kernel); (case qqc2 => exact rfl); (case qqc3 => exact rfl); (case qqc4 => exact rfl); k_whole; intro g' L' h' tk' cells' FG' F' N' Y' B' X' T' qql1; k_cells Y'; (try simp only [List.cons_append, List.nil_append] at N'); (try dsimp only); (try k_fold))
  k_with "exec For" => (k_here; refine wpAny_For ?_ (fun _ => rfl))
  k_with "exec For Tuple List cons nil" => (k_here; refine wpAny_For ?_ (fun _ => rfl))
  k_with "spliced" => (k_here; first | refine args_cons ?_ | (refine args_nil ?_; try dsimp only [List.cons_append, List.nil_append]))
  k_with "m_lit" => first | exact lt_None | exact lt_True | exact lt_False | exact lt_q | exact lt_d | exact lt_po | exact lt_pc | exact lt_bo | exact lt_bc | exact lt_cs | exact lt_cp | exact lt_mi | exact lt_ze | exact lt_nl | exact lt_bs | exact lt_n | exact lt_one _
  k_with "m_yes" => (refine' sl_yes ?qqha ?qqhk ?qqhl ?qqhe; (case qqhl => walk_at "m_lit"); (case qqha => assumption); (case qqhk => decide); (case qqhe => rfl))
  k_with "m_no" => first
  | (refine' sl_no ?qqha ?qqhk ?qqhl ?qqhc; (case qqhl => walk_at "m_lit"); (case qqha => assumption); (case qqhk => decide); (case qqhc => first | assumption | omega))
  | (refine' sl_no2 ?qqha ?qqhk ?qqhl ?qqhc; (case qqhl => walk_at "m_lit"); (case qqha => assumption); (case qqhk => decide); (case qqhc => first | assumption | omega))
  | (refine' sl_end ?qqha ?qqhk ?qqhl; (case qqhl => walk_at "m_lit"); (case qqha => assumption); (case qqhk => decide))
  k_with "compareOp Eq str str" => (k_here; (with_reducible show wpAny _ _ (compareOp _ (Value.str (Txt.slice _ _ _) _) _) _ _ _); k_dflt (first | (refine' eq_is (b := true) ?qqe ?_; (case qqe => walk_at "m_yes")) | (refine' eq_is (b := false) ?qqe ?_; (case qqe => walk_at "m_no"))))
  k_with "compareOp NotEq str str" => (k_here; (with_reducible show wpAny _ _ (compareOp _ (Value.str (Txt.slice _ _ _) _) _) _ _ _); k_dflt (first | (refine' ne_is (b := true) ?qqe ?_; (case qqe => walk_at "m_yes")) | (refine' ne_is (b := false) ?qqe ?_; (case qqe => walk_at "m_no"))))
  k_with "m_turn2" => (refine' list2_turn ?qqF ?qqN ?qqhI ?qqh1 ?qqh2 ?qqhm ?qqhg; (case qqF => k_asm); (case qqN => k_asm); (case qqhI => assumption); (case qqh1 => k_mem); (case qqh2 => (intro p hp; (walk_at "tb_rel"))); (case qqhm => (intro z h1 h2; simp only [if_neg h1, if_neg h2])); (case qqhg => decide))
  k_with "m_lt" => first | assumption | exact tb_ltOf (by assumption) | exact tb_ltOf (And.right (by assumption)) | exact tb_ltOf (And.right (And.right (by assumption))) | exact tb_ltOf (And.right (And.right (And.right (by assumption)))) | exact tb_ltOf (And.right (And.right (And.right (And.right (by assumption))))) | exact tb_ltOf (And.right (And.right (And.right (And.right (And.right (by assumption)))))) | exact tb_ltOf (And.right (And.right (And.right (And.right (And.right (And.right (by assumption))))))) | exact tb_ltOf (And.right (And.right (And.right (And.right (And.right (And.right (And.right (by assumption)))))))) | exact tb_ltOf (And.right (And.right (And.right (And.right (And.right (And.right (And.right (And.right (by assumption)))))))))
  k_with "m_ret1" => ((rename Fr _ _ _ _ => lF'); (rename News _ _ _ _ => lN'); (refine' rd_ret1 ?qqhret lF' lN' ?qqhm ?qqhs ?qqab ?_; (case qqhret => assumption); (case qqhm => k_mem); (case qqhs => (intro p hp; (walk_at "tb_rel"))); (case qqab => walk_at "m_lt")))
  k_with "subscriptTail Name Name str int" => (k_here; (with_reducible show wpAny _ _ (subscriptTail _ _ (Value.str _ _) (Value.int _ _)) _ _ _); k_dflt (refine' item_at ?qqha ?qqhw ?_ ?qqhs ?qqht; (case qqha => assumption); (case qqhw => assumption); (case qqhs => with_unfolding_all rfl); (case qqht => (intro _; with_unfolding_all rfl)); k_whole))
  k_with "exec While BoolOp cons nil" => (k_here; refine held_off ?_)
  k_with "exec While Compare cons nil" => (k_here; refine held_off ?_)
  k_with "m_ne" => first | assumption | omega
  k_with "m_ch1" => (refine' ch_yes ?qqhl ?qqhc; (case qqhl => walk_at "m_lit"); (case qqhc => first | rfl | omega))
  k_with "m_ch0" => (refine' ch_no ?qqhl ?qqhc; (case qqhl => walk_at "m_lit"); (case qqhc => walk_at "m_ne"))
  k_with "compareOp Eq str str" => (k_here; (with_reducible show wpAny _ _ (compareOp _ (Value.str (Str.mk #[_]) _) _) _ _ _); k_dflt (first | (refine' eq_is (b := true) ?qqe ?_; (case qqe => walk_at "m_ch1")) | (refine' eq_is (b := false) ?qqe ?_; (case qqe => walk_at "m_ch0"))))
  k_with "compareOp NotEq str str" => (k_here; (with_reducible show wpAny _ _ (compareOp _ (Value.str (Str.mk #[_]) _) _) _ _ _); k_dflt (first | (refine' ne_is (b := true) ?qqe ?_; (case qqe => walk_at "m_ch1")) | (refine' ne_is (b := false) ?qqe ?_; (case qqe => walk_at "m_ch0"))))
  k_with "compareOp NotIn str ref" => (k_here; k_dflt (refine' notinL ?qqN ?qqm ?qqi ?qqv ?_; (case qqN => k_asm); (case qqm => k_mem); (case qqi => exact .cons _ _ (.cons _ _ (.cons _ _ .nil))); (case qqv => exact nb_any (by assumption) (by omega)); k_whole))
  k_with "ktr_rel" => (rw [sizeLine_eq]; (try simp only [PySem.Str.length_append, len1c, len_nl]); omega)
  k_with "inplaceOp Add str str" => (k_here; (refine PyProof.Rows.iadd_str (hsz := ?qqhsz) ?_); (case qqhsz => (walk_at "ktr_rel")); intro _ _)
  k_with "KswPost" => (refine held_off ?_)
  k_with "call builtin:len" => (k_here; (with_reducible show wpAny _ _ (call (Value.builtin "len") [Value.str _ _]) _ _ _); (fail_if_success (with_reducible show wpAny _ _ (call (Value.builtin "len") [Value.str (PySem.Str.ofString _) _]) _ _ _)); k_dflt (refine PySem.P.len_str (by omega) ?_))
  k_with "exec For Name Name cons nil" => (k_here; refine wpAny_For ?_ (fun _ => rfl))
  k_with "subscriptTail Name BinOp ref int" => (k_here; k_dflt (refine' item3 ?qqN ?qqm ?qqh0 ?qqh3 ?_ ?qqa ?qqb; (case qqN => k_asm); (case qqm => k_mem); (case qqh0 => exact (fmod_in _ (by decide)).1); (case qqh3 => exact (fmod_in _ (by decide)).2); (case qqa => with_unfolding_all rfl); (case qqb => (intro _; with_unfolding_all rfl)); k_whole; intro v' d' hsc'))
  k_with "call ref" => (k_here; k_dflt ((with_reducible show wpAny _ _ (call (Value.ref 87) _ _) _ _ _); refine' callee_txt (text_spec ?qqh0 ?qqh1) ?qqB ?qqF ?qqX ?qqN ?qqT ?qqhk trivial ?qqhd ?qqhu ?_; (case qqh0 => exact (fmod_in _ (by decide)).1); (case qqh1 => exact (fmod_in _ (by decide)).2); (case qqB => k_asm); (case qqF => k_asm); (case qqX => k_asm); (case qqN => k_asm); (case qqT => k_asm); (case qqhk => exact rfl); (case qqhd => ktr_room); (case qqhu => ktr_units); k_whole; intro x' t' h' tk' F' N' hx1' hx2'; (try k_sweep)))
  k_with "call builtin:len" => (k_here; (with_reducible show wpAny _ _ (call (Value.builtin "len") [Value.ref _]) _ _ _); k_dflt (refine' lenL ?qqN ?qqm ?qqe ?qqz ?_; (case qqN => k_asm); (case qqm => k_mem); (case qqe => assumption); (case qqz => omega); k_whole))
  k_with "call builtin:list.append" => (k_here; k_dflt (refine' appendP ?qqF ?qqN ?qqm ?qqR ?qqsub ?qqz ?_; (case qqF => k_asm); (case qqN => k_asm); (case qqR => with_reducible assumption); (case qqm => k_mem); (case qqsub => (intro p hp; (walk_at "tb_rel"))); (case qqz => omega); k_whole; intro h' F' N'; (try k_sweep)))
  k_with "subscriptTail Name Slice ref ref" => (k_here; (with_reducible show wpAny _ _ (subscriptTail _ (PySem.Expr.Slice _ _ none _) (Value.ref _) (Value.ref _)) _ _ _); k_dflt (refine' kms_slice_lit ?qqF ?qqN ?qql ?qqp ?qqq ?qqe ?_ ?qqs ?qqt ?qqz; (case qqF => k_asm); (case qqN => k_asm); (case qql => exact News.isList (by k_asm) (by k_mem)); (case qqp => kmk_part); (case qqq => kmk_part); (case qqe => first | exact pick_from (sizes (Int.natCast_nonneg _) (fmod_in _ (by decide)).1) (by assumption) | exact pick_upto (sizes (Int.natCast_nonneg _) (fmod_in _ (by decide)).1) (by assumption)); (case qqs => with_unfolding_all rfl); (case qqt => kmk_pure); (case qqz => (rw [List.size_toArray, sizeLine_eq]; omega))); intro D' h' F' N' qql1; (try k_lt qql1); (try k_sweep))
  k_with "binaryOp Add ref ref" => (k_here; k_dflt (refine' addP (us := [_]) ?qqF ?qqN ?qqm ?qqb ?qqz ?_; (case qqF => k_asm); (case qqN => k_asm); (case qqm => k_mem); (case qqb => k_mem); (case qqz => (simp only [List.length_take, List.length_cons, List.length_nil]; omega)); k_whole); intro D' h' F' N' qql1; (try k_lt qql1); (try k_sweep))
  k_with "call type:tuple" => (k_here; (with_reducible show wpAny _ _ (call (Value.type _) [Value.ref _]) _ _ _); k_dflt (refine' kde_tupleOf ?qqk1 ?qqk2 ?qqk3 ?qqk4 ?qqk5 ?_; (case qqk1 => k_asm); (case qqk2 => k_asm); (case qqk3 => exact News.isList (by k_asm) (by k_mem)); (case qqk4 => (simp only [List.size_toArray, List.length_drop]; omega)); (case qqk5 => exact rfl); k_whole); intro D' h' F' N' qql1; (try k_lt qql1); (try k_sweep))
  trivial
theorem fm_p {x k : Int} (hk : 0 < k) (hk2 : k ≤ 1000000) : (Int.fmod x k).natAbs < 1000000 := by have := fmod_in x hk; omega
theorem fm_n {x k : Int} (hk : 0 < k) (hk2 : k ≤ 1000000) : (-(Int.fmod x k)).natAbs < 1000000 := by have := fmod_in x hk; omega
theorem kw_S12_28 : True := by
  k_with "eval IfExp" => (k_here; (fail_if_success (rename GoI => hM9)); refine held_off ?_)
  k_with "isTrue BoolOp" => (k_here; (fail_if_success (rename GoJ => hM9)); refine held_off ?_)
  trivial
theorem stack_spec {w : World} {a : Addr} {ws : List Value} {ns : List Int} {n0 : Nat} (hI : IntsAre ws ns) (hns : ns.length ≤ 32) :
   C3 w 94 60 400 [.ref a] [] (fun news => (a, W.listOf ws.toArray n0) ∈ news) (fun tl r => ∃ ds, Bd tl (.list ds) r ∧ OkAll ds ∧ ds ≠ [] ∧ ds.length ≤ 40 ∧ PyData.depthAll ds ≤ 32 ∧ phi ds ≤ 500) := by
  unfold C3 Callee
  k_fill
  intro loose mean mg mb dp un cn cs a' ccd cl outer A₀ base h₀ L m news s Q E B F X N T hk hrel hd9 hu9 hret
  refine wpAny_call ?_
  k_dflt ktr_enter
  k_steps
  (rename Fr _ _ _ _ => lF); (rename News _ _ _ _ => lN); (rename (∀ p ∈ news, p.1 < _) => l1)
  refine' st_iter (c₀ := ⟨?P0, ?vs0, 0, [], ?ds0⟩) hI ?hh lF lN hrel (st_start l1) ?hst ?hx ?hp ?turn ?done ?po
  case hh => rfl
  case hx => rfl
  case hp => rfl
  case hst => rfl
  case po => passes_own
  case turn =>
    intro I i c n t h tk oI m₁ hi hc hIo F9 N9
    clear lF lN
    have hbd := hc.1
    have hok := hc.2.1
    have hne := hc.2.2.1
    have hlen := hc.2.2.2.1
    have hdep := hc.2.2.2.2.1
    have hphi := hc.2.2.2.2.2.1
    have hoff := hc.2.2.2.2.2.2.1
    have hup := hc.2.2.2.2.2.2.2.1
    have hP := hc.2.2.2.2.2.2.2.2
    have hvl : c.vs.length = c.ds.length := hbd.length
    have hoffI : OffP c.P ((I, oI) :: (c.more ++ news)) := by
      intro p hp
      rcases List.mem_cons.mp hp with rfl | hp
      · exact fun e9 => hIo _ (List.Mem.head _) e9.symm
      · exact hoff p hp
    k_steps
    · refine' st_endP hc hIo ?F1 ?N1 ?m1 ?i1 ?s1 ?c1 ?t1
      case F1 => k_asm
      case N1 => k_asm
      case m1 => k_mem
      case i1 => k_mem
      case s1 => (intro p hp; (walk_at "tb_rel"))
      case c1 => exact (by assumption)
      case t1 => rfl
    · unfold Held
      refine' mono_p (fun n => n.natAbs < 1000000) ?hw1 ?go1
      case hw1 =>
        have hI : GoI := trivial
        clear hret
        k_steps
        all_goals first | exact is_p (fm_n (by decide) (by decide)) | exact is_p (fm_p (by decide) (by decide))
      intro n9 k9 t9 hn9
      dsimp only
      k_steps
      refine' st_endP hc hIo ?F2 ?N2 ?m2 ?i2 ?s2 ?c2 ?t2
      case F2 => k_asm
      case N2 => k_asm
      case m2 => k_mem
      case i2 => k_mem
      case s2 => (intro p hp; (walk_at "tb_rel"))
      case c2 => exact sc_int hn9
      case t2 => rfl
    · unfold Held
      refine' mono_e ?hw2 ?go2
      case hw2 =>
        have hJ : GoJ := trivial
        clear hret
        k_steps
        all_goals exact is_e
      have hI : GoI := trivial
      intro b9 t9
      dsimp only
      k_steps
      · refine' st_endP hc hIo ?F4 ?N4 ?m4 ?i4 ?s4 ?c4 ?t4
        case F4 => k_asm
        case N4 => k_asm
        case m4 => k_mem
        case i4 => k_mem
        case s4 => (intro p hp; (walk_at "tb_rel"))
        case c4 => exact sc_str (by assumption) (by assumption)
        case t4 => rfl
      · refine' st_endL hc hIo ?F6 ?N6 ?m6 ?h6 ?i6 ?s6 ?a6 ?b6 ?d6 ?n6 ?t6
        case F6 => k_asm
        case N6 => k_asm
        case m6 => k_mem
        case h6 => k_mem
        case i6 => k_mem
        case s6 => (intro p hp; (walk_at "tb_rel"))
        case a6 => omega
        case b6 => omega
        case d6 => omega
        case n6 => walk_at "m_lt"
        case t6 => rfl
      · refine' st_endT hc hIo ?F7 ?N7 ?m7 ?h7 ?i7 ?s7 ?a7 ?b7 ?d7 ?n7 ?t7
        case F7 => k_asm
        case N7 => k_asm
        case m7 => k_mem
        case h7 => k_mem
        case i7 => k_mem
        case s7 => (intro p hp; (walk_at "tb_rel"))
        case a7 => omega
        case b7 => omega
        case d7 => omega
        case n7 => walk_at "m_lt"
        case t7 => rfl
  case done =>
    intro c m₁ h tk hc F9 N9
    clear lF lN
    have hbd := hc.1
    have hok := hc.2.1
    have hne := hc.2.2.1
    have hlen := hc.2.2.2.1
    have hdep := hc.2.2.2.2.1
    have hphi := hc.2.2.2.2.2.1
    have hoff := hc.2.2.2.2.2.2.1
    have hup := hc.2.2.2.2.2.2.2.1
    have hP := hc.2.2.2.2.2.2.2.2
    dsimp only
    k_steps
    (rename Fr _ _ _ _ => lF'); (rename News _ _ _ _ => lN')
    refine hret _ ((c.P, W.listOf c.vs.toArray c.cap) :: c.more) _ _ lF' (fun p hp => lN' p (by (walk_at "tb_rel"))) ?_ ⟨c.ds, ?_, hok, hne, by omega, by omega, by omega⟩
    · intro p hp q hq
      rcases List.mem_cons.mp hp with rfl | hp
      · exact hP q hq
      · exact hup p hp q hq
    · simp only [Bd]
      exact ⟨_, c.vs, c.cap, rfl, List.Mem.head _, BdAll.mono (fun p hp => List.Mem.tail _ hp) hbd⟩
end Mine
end
theorem Mine.kw_F15 : True := by
  k_with_none
  trivial
section

open PySem PySem.W PyProof.Rows PySem.Calls PySem.Spec Builtin Builtin.Str
set_option maxRecDepth 100000
set_option maxHeartbeats 400000
namespace Mine
theorem dg_ascii (n : Nat) : ∀ c ∈ dg n, c < 128 := fun c hc => by have := dg_digit n c hc; omega
theorem esc_ascii {q : Nat} (hq : q = 34 ∨ q = 39) {l : List Nat} (h : ∀ c ∈ l, okSign c) : ∀ c ∈ esc q l, c < 128 := by
  intro c hc
  unfold esc at hc
  obtain ⟨d, hd, hcd⟩ := List.mem_flatMap.mp hc
  exact reprChar_ascii hq (h d hd) c hcd
mutual
theorem OkD.asc : ∀ {d : PyData}, OkD d → ∀ c ∈ shC d, c < 128
  | .none, _ => by rw [shC_none]; decide
  | .bool true, _ => by rw [shC_true]; decide
  | .bool false, _ => by rw [shC_false]; decide
  | .int n, _ => by
    by_cases h : 0 ≤ n
    · rw [shC_pos h]; exact dg_ascii _
    · rw [shC_neg (by omega)]
      intro c hc
      rcases List.mem_cons.mp hc with rfl | hc
      · decide
      · exact dg_ascii _ c hc
  | .str x, h => by
    simp only [OkD] at h
    rw [shC_str]
    have hq := quote_is x
    intro c hc
    rcases List.mem_cons.mp hc with rfl | hc
    · omega
    · rcases List.mem_append.mp hc with hc | hc
      · exact esc_ascii hq h.1 c hc
      · rw [List.mem_singleton.mp hc]; omega
  | .list xs, h => by
    simp only [OkD] at h
    rw [shC_list]
    intro c hc
    rcases List.mem_cons.mp hc with rfl | hc
    · decide
    · rcases List.mem_append.mp hc with hc | hc
      · exact OkAll.ascJ h c hc
      · rw [List.mem_singleton.mp hc]; decide
  | .tuple xs, h => by
    simp only [OkD] at h
    rw [shC_tuple]
    intro c hc
    rcases List.mem_cons.mp hc with rfl | hc
    · decide
    · rcases List.mem_append.mp hc with hc | hc
      · exact OkAll.ascJ h c hc
      · split at hc
        · simp at hc; omega
        · simp at hc; omega
  | .dict _, h => by simp only [OkD] at h
theorem OkAll.ascS : ∀ {ds : List PyData}, OkAll ds → ∀ c ∈ sepC ds, c < 128
  | [], _ => by simp [sepC]
  | d :: ds, h => by
    simp only [OkAll] at h
    intro c hc
    simp only [sepC] at hc
    rcases List.mem_cons.mp hc with rfl | hc
    · decide
    rcases List.mem_cons.mp hc with rfl | hc
    · decide
    rcases List.mem_append.mp hc with hc | hc
    · exact OkD.asc h.1 c hc
    · exact OkAll.ascS h.2 c hc
theorem OkAll.ascJ : ∀ {ds : List PyData}, OkAll ds → ∀ c ∈ joinC ds, c < 128
  | [], _ => by simp [joinC]
  | d :: ds, h => by
    simp only [OkAll] at h
    intro c hc
    simp only [joinC] at hc
    rcases List.mem_append.mp hc with hc | hc
    · exact OkD.asc h.1 c hc
    · exact OkAll.ascS h.2 c hc
end
theorem OkD.ascii {d : PyData} (h : OkD d) : ascii d.shown := OkD.asc h
theorem told3_ascii {d1 d2 d3 : PyData} (h1 : OkD d1) (h2 : OkD d2) (h3 : OkD d3) : flatD (.str (told3 d1.shown d2.shown d3.shown)) := by
  show Mine.ascii (told3 d1.shown d2.shown d3.shown)
  unfold told3
  exact ascii_append (ascii_append (ascii_append (ascii_append (ascii_append (ascii_append (ascii_append (ascii_of (by decide +kernel)) h1.ascii) (ascii_of (by decide +kernel))) h2.ascii) (ascii_of (by decide +kernel))) (ascii_of (by decide +kernel))) (ascii_of (by decide +kernel))) h3.ascii
/-- a datum of the law's turn -/
structure Dt (d : PyData) : Prop where
  ok : OkD d
  dep : d.depth ≤ 40
  len : (shC d).length ≤ 1000
theorem Dt.shows {prog : Program} {w : World} {news news' : List (Addr × Obj)} {d : PyData} {v : Value} (h : Dt d) (hb : Bd news d v) (hs : ∀ p ∈ news, p ∈ news') : ShowsN prog w news' v d.shown :=
  (Bd.mono hs hb).shows h.ok (by have := h.dep; omega) (by have := h.len; rw [← sg_length]; show (shC d).length ≤ 100000; omega)
end Mine
end
section

open PySem PySem.W PyProof.Rows PySem.Calls PySem.Spec
set_option maxRecDepth 100000
set_option maxHeartbeats 400000
namespace Mine
theorem Dt.short {d : PyData} (h : Dt d) : Short 40 d := short_of 40 d h.ok h.dep h.len
theorem short_flat {n : Nat} {d : PyData} (h : ∀ ds, d ≠ .list ds ∧ d ≠ .tuple ds) (h0 : d.depth = 0) : Short n d := by
  cases n with
  | zero => exact h0
  | succ n => intro ds hd; rcases hd with e | e; exact absurd e (h ds).1; exact absurd e (h ds).2
theorem same_told {w : World} {d1 d2 d3 : PyData} {v1 v2 v3 r : Value} {b : Addr} {k : Tok} {c : Nat} (h1 : Dt d1) (h2 : Dt d2) (h3 : Dt d3) :
    C3 w 120 140 600 [r, .ref b] [] (fun l => Bd l (.list (tdD d1 d2 d3)) r ∧ (b, W.listOf #[v1, v2, .int 10 k, v3] c) ∈ l ∧ Bd l d1 v1 ∧ Bd l d2 v2 ∧ Bd l d3 v3) (fun tl r => tl = [] ∧ r = .bool true) := by
  have ok : OkD (.list (tdD d1 d2 d3)) := by simp only [OkD, OkAll]; exact ⟨h1.ok, h2.ok, by decide, h3.ok, trivial⟩
  have dep : (PyData.list (tdD d1 d2 d3)).depth ≤ 41 := by
    have := h1.dep; have := h2.dep; have := h3.dep
    simp only [PyData.depth, PyData.depthAll]; omega
  have sh : Short 41 (.list (tdD d1 d2 d3)) := by
    intro ds hd
    rcases hd with e | e <;> cases e
    refine ⟨by simp, fun e he => ?_⟩
    simp only [List.mem_cons, List.not_mem_nil, or_false] at he
    rcases he with rfl | rfl | rfl | rfl
    · exact h1.short
    · exact h2.short
    · exact short_flat (fun ds => ⟨nofun, nofun⟩) (by simp only [PyData.depth])
    · exact h3.short
  refine callee_weaken (same_spec 41 _ ok dep sh r (.ref b)) (by decide) (by decide) ?_
  rintro l ⟨hr, hb, b1, b2, b3⟩
  refine ⟨hr, ?_⟩
  simp only [Bd, BdAll]
  exact ⟨_, [v1, v2, .int 10 k, v3], c, rfl, hb, _, _, rfl, b1, _, _, rfl, b2, _, _, rfl, ⟨_, rfl⟩, _, _, rfl, b3, rfl⟩
theorem same_args {w : World} {d1 d2 d3 : PyData} {v1 v2 v3 : Value} {a b t t2 : Addr} {c c2 c3 c4 : Nat} (h1 : Dt d1) (h2 : Dt d2) (h3 : Dt d3) :
    C3 w 120 140 620 [.ref a, .ref b] [] (fun l => (a, W.listOf #[v1, v2, .ref t] c) ∈ l ∧ (t, ({ cls := .type "tuple", data := .seq #[v1, v2, v3] c3 } : Obj)) ∈ l ∧ (b, W.listOf #[v1, v2, .ref t2] c2) ∈ l ∧ (t2, ({ cls := .type "tuple", data := .seq #[v1, v2, v3] c4 } : Obj)) ∈ l ∧ Bd l d1 v1 ∧ Bd l d2 v2 ∧ Bd l d3 v3) (fun tl r => tl = [] ∧ r = .bool true) := by
  have ok : OkD (.list [d1, d2, .tuple [d1, d2, d3]]) := by simp only [OkD, OkAll]; exact ⟨h1.ok, h2.ok, ⟨h1.ok, h2.ok, h3.ok, trivial⟩, trivial⟩
  have dep : (PyData.list [d1, d2, .tuple [d1, d2, d3]]).depth ≤ 42 := by
    have := h1.dep; have := h2.dep; have := h3.dep
    simp only [PyData.depth, PyData.depthAll]; omega
  have sh : Short 42 (.list [d1, d2, .tuple [d1, d2, d3]]) := by
    have up : ∀ d, Dt d → Short 41 d := fun d h => short_of 41 d h.ok (Nat.le_trans h.dep (by decide)) h.len
    intro ds hd
    rcases hd with e | e <;> cases e
    refine ⟨by simp, fun e he => ?_⟩
    simp only [List.mem_cons, List.not_mem_nil, or_false] at he
    rcases he with rfl | rfl | rfl
    · exact up _ h1
    · exact up _ h2
    · intro ds hd
      rcases hd with e | e <;> cases e
      refine ⟨by simp, fun e he => ?_⟩
      simp only [List.mem_cons, List.not_mem_nil, or_false] at he
      rcases he with rfl | rfl | rfl
      · exact h1.short
      · exact h2.short
      · exact h3.short
  refine callee_weaken (same_spec 42 _ ok dep sh (.ref a) (.ref b)) (by decide) (by decide) ?_
  rintro l ⟨ha, ht, hb, ht2, b1, b2, b3⟩
  have tup : ∀ {t : Addr} {c : Nat}, (t, ({ cls := .type "tuple", data := .seq #[v1, v2, v3] c } : Obj)) ∈ l → Bd l (.tuple [d1, d2, d3]) (.ref t) := by
    intro t c h
    simp only [Bd, BdAll]
    exact ⟨_, [v1, v2, v3], c, rfl, h, _, _, rfl, b1, _, _, rfl, b2, _, _, rfl, b3, rfl⟩
  have lst : ∀ {a t : Addr} {c c3 : Nat}, (a, W.listOf #[v1, v2, .ref t] c) ∈ l → (t, ({ cls := .type "tuple", data := .seq #[v1, v2, v3] c3 } : Obj)) ∈ l → Bd l (.list [d1, d2, .tuple [d1, d2, d3]]) (.ref a) := by
    intro a t c c3 h h'
    have := tup h'
    unfold Bd BdAll
    exact ⟨_, [v1, v2, .ref t], c, rfl, h, _, _, rfl, b1, by unfold BdAll; exact ⟨_, _, rfl, b2, by unfold BdAll; exact ⟨_, _, rfl, this, by simp only [BdAll]⟩⟩⟩
  exact ⟨lst ha ht, lst hb ht2⟩
end Mine
end
section

open PySem PySem.W PyProof.Rows PySem.Calls PySem.Spec
set_option maxRecDepth 100000
namespace Mine
theorem Bd.handed {news : List (Addr × Obj)} : ∀ {d : PyData} {v : Value}, Bd news d v → handedIn v = true
  | .none, v, h => by simp only [Bd] at h; subst h; rfl
  | .bool b, v, h => by simp only [Bd] at h; subst h; rfl
  | .int n, v, h => by simp only [Bd] at h; obtain ⟨k, rfl⟩ := h; rfl
  | .str x, v, h => by simp only [Bd] at h; obtain ⟨k, rfl⟩ := h; rfl
  | .list ds, v, h => by simp only [Bd] at h; obtain ⟨a, vs, n, rfl, _⟩ := h; rfl
  | .tuple ds, v, h => by simp only [Bd] at h; obtain ⟨a, vs, n, rfl, _⟩ := h; rfl
  | .dict _, v, h => by simp only [Bd] at h
theorem isL3 {h₀ h : Heap} {L a : Addr} {vs : List Value} {n : Nat} {news : List (Addr × Obj)} (N : News h₀ L h news) (hm : (a, W.listOf vs.toArray n) ∈ news) : h.IsList a vs.toArray := ⟨_, (N _ hm).1, rfl, _, rfl⟩
noncomputable def lawBody3 (P : Params) : List Stmt := match (Mine.hd.heap_39 P).lookup 134 with
  | some ⟨_, _, .func fd, _⟩ => (match fd.body with | .stmts b => b | _ => [])
  | _ => []
noncomputable def lawScope3 (P : Params) : Scope := match (Mine.hd.heap_39 P).lookup 134 with
  | some ⟨_, _, .func fd, _⟩ => fd.scope
  | _ => default
noncomputable def lawTurn3 (P : Params) : List Stmt := match lawBody3 P with
  | [_, _, .For _ _ b _ _, _] => b
  | _ => []
noncomputable def lawTarget3 (P : Params) : Expr := match lawBody3 P with
  | [_, _, .For t _ _ _ _, _] => t
  | _ => .Constant .none 0 default
noncomputable def lawInner3 (P : Params) : List Stmt := match lawTurn3 P with
  | [_, _, _, _, .For _ _ b _ _] => b
  | _ => []
end Mine
end
section

open PySem PySem.W PyProof.Rows PySem.Calls PySem.Spec
namespace Mine
theorem kw_T40 : True := by
  k_with_none
  trivial
theorem kw_T40_29 : True := by
  k_with "ktr_room" => (simp only [depth_under_make, depth_under_kw, depth_in1, depth_deeper, depth_caller, ktrTop]; omega)
  k_with "ktr_units" => (simp only [units_in1, units_deeper, Around.mark_units, units_caller, ktrTop]; omega)
  k_with "k_room" => ktr_room
  k_with "k_units" => ktr_units
  k_with "tb_rel" => (repeat (first | assumption | apply List.Mem.tail))
  k_with "k_all" => (first | refine allBelow (by assumption) ?_ | refine allBelow (tb_ltOf (by assumption)) ?_); (try dsimp only); omega
  k_with "k_mem" => first | exact List.Mem.head _ | assumption | (refine' List.Mem.tail _ ?_; k_mem)
  trivial
set_option maxRecDepth 100000
set_option maxHeartbeats 1000000
theorem kw_T40_30 : True := by
  k_with "m_enterC" => (refine' code_defC ?qqk1 ?qqk2 ?qqk3 ?qqk4 ?qqk5 ?qqkA ?qqkF ?qqkK ?qqk6 ?qqk7 ?qqk8 ?qqk9 ?qqkB ?qqkD ?_ ?qqc2 ?qqc3 ?qqc4; (case qqkA => exact rfl); (case qqkF => exact rfl); (case qqkK => assumption); (case qqk1 => k_asm); (case qqk2 => k_asm); (case qqk3 => k_asm); (case qqk4 => k_asm); (case qqk5 => k_asm); (case qqk6 => k_is); (case qqk7 => k_is); (case qqk8 => ktr_room); (case qqk9 => exact BindsTo.of_eq rfl); (case qqkB => exact rfl); (case qqkD => decide +kernel); (case qqc2 => exact rfl); (case qqc3 => exact rfl); (case qqc4 => exact rfl); k_whole; intro g' L' h' tk' cells' FG' F' N' Y' B' X' T' qql1; k_cells Y'; (try simp only [List.cons_append, List.nil_append] at N'); (try dsimp only); (try k_fold))
  k_with "exec For" => (k_here; refine wpAny_For ?_ (fun _ => rfl))
  k_with "exec For Tuple List cons nil" => (k_here; refine wpAny_For ?_ (fun _ => rfl))
  k_with "spliced" => (k_here; first | refine args_cons ?_ | (refine args_nil ?_; try dsimp only [List.cons_append, List.nil_append]))
  k_with "tb_rel" => (repeat (first | assumption | exact List.mem_append_left _ (by assumption) | apply List.Mem.tail | apply List.mem_append_right))
  k_with "k_mem" => first | exact List.Mem.head _ | assumption | (refine' List.Mem.tail _ ?_; k_mem) | (refine' List.mem_append_right _ ?_; k_mem)
  k_with "m_bd" => (refine' Bd.mono ?qqs ?qqb; (case qqb => assumption); (case qqs => (intro p hp; (walk_at "tb_rel"))))
  k_with "m_tail" => (k_whole; intro h' tk' F' N'; (try k_sweep))
  k_with "call ref" => (k_here; k_dflt (first
  | ((with_reducible show wpAny _ _ (call (Value.ref 36) _ _) _ _ _); refine' callee_val tell78 ?qqB ?qqF ?qqX ?qqN ?qqT ?qqhk ?qqhr ?qqhd ?qqhu ?_; (case qqB => k_asm); (case qqF => k_asm); (case qqX => k_asm); (case qqN => k_asm); (case qqhr => exact ⟨by k_mem, by k_mem⟩); (case qqT => k_asm); (case qqhk => exact rfl); (case qqhd => ktr_room); (case qqhu => ktr_units); (walk_at "m_tail"); (try dsimp only [StrBack]))
  | ((with_reducible show wpAny _ _ (call (Value.ref 120) _ _) _ _ _); first
    | (refine' callee_val (same_args ?qqd1 ?qqd2 ?qqd3) ?qqB ?qqF ?qqX ?qqN ?qqT ?qqhk ?qqhr ?qqhd ?qqhu ?_; (case qqB => k_asm); (case qqF => k_asm); (case qqX => k_asm); (case qqN => k_asm); (case qqhr => (refine' And.intro ?qqm1 (And.intro ?qqm2 (And.intro ?qqm3 (And.intro ?qqm4 (And.intro ?qqb1 (And.intro ?qqb2 ?qqb3))))); (case qqm1 => k_mem); (case qqm2 => k_mem); (case qqm3 => k_mem); (case qqm4 => k_mem); (case qqb1 => walk_at "m_bd"); (case qqb2 => walk_at "m_bd"); (case qqb3 => walk_at "m_bd"))); (case qqd1 => assumption); (case qqd2 => assumption); (case qqd3 => assumption); (case qqT => k_asm); (case qqhk => exact rfl); (case qqhd => ktr_room); (case qqhu => ktr_units); (walk_at "m_tail"))
    | (refine' callee_val (same_told ?qqd1 ?qqd2 ?qqd3) ?qqB ?qqF ?qqX ?qqN ?qqT ?qqhk ?qqhr ?qqhd ?qqhu ?_; (case qqB => k_asm); (case qqF => k_asm); (case qqX => k_asm); (case qqN => k_asm); (case qqhr => (refine' And.intro ?qqm1 (And.intro ?qqm2 (And.intro ?qqb1 (And.intro ?qqb2 ?qqb3))); (case qqm1 => walk_at "m_bd"); (case qqm2 => k_mem); (case qqb1 => walk_at "m_bd"); (case qqb2 => walk_at "m_bd"); (case qqb3 => walk_at "m_bd"))); (case qqd1 => assumption); (case qqd2 => assumption); (case qqd3 => assumption); (case qqT => k_asm); (case qqhk => exact rfl); (case qqhd => ktr_room); (case qqhu => ktr_units); (walk_at "m_tail")))
  | ((with_reducible show wpAny _ _ (call (Value.ref 78) (_ :: _) _) _ _ _); refine' callee_exc mk78 ?qqB ?qqF ?qqX ?qqN ?qqT ?qqhk ?qqhr ?qqhd ?qqhu ?_; (case qqB => k_asm); (case qqF => k_asm); (case qqX => k_asm); (case qqN => k_asm); (case qqhr => walk_at "m_shows"); (case qqT => k_asm); (case qqhk => exact rfl); (case qqhd => ktr_room); (case qqhu => ktr_units); k_whole; intro x' d' t' u' k1' k2' k3' h' tk' F' N'; (try k_sweep))
  | ((with_reducible show wpAny _ _ (call (Value.ref 78) [] _) _ _ _); refine' callee_exc mk78k ?qqB ?qqF ?qqX ?qqN ?qqT ?qqhk ?qqhr ?qqhd ?qqhu ?_; (case qqB => k_asm); (case qqF => k_asm); (case qqX => k_asm); (case qqN => k_asm); (case qqhr => walk_at "m_shows"); (case qqT => k_asm); (case qqhk => exact rfl); (case qqhd => ktr_room); (case qqhu => ktr_units); k_whole; intro x' d' t' u' k1' k2' k3' h' tk' F' N'; (try k_sweep))
  | ((with_reducible show wpAny _ _ (call (Value.ref 127) _ _) _ _ _); refine' callee_use (told_spec ?qqo1 ?qqo2 ?qqo3 ?qqp1 ?qqp2 ?qqp3 ?qql1 ?qql2 ?qql3) ?qqB ?qqF ?qqX ?qqN ?qqT ?qqhk trivial ?qqhd ?qqhu ?_; (case qqo1 => exact Dt.ok (by assumption)); (case qqo2 => exact Dt.ok (by assumption)); (case qqo3 => exact Dt.ok (by assumption)); (case qqp1 => exact Dt.dep (by assumption)); (case qqp2 => exact Dt.dep (by assumption)); (case qqp3 => exact Dt.dep (by assumption)); (case qql1 => exact Dt.len (by assumption)); (case qql2 => exact Dt.len (by assumption)); (case qql3 => exact Dt.len (by assumption)); (case qqB => k_asm); (case qqF => k_asm); (case qqX => k_asm); (case qqN => k_asm); (case qqT => k_asm); (case qqhk => exact rfl); (case qqhd => ktr_room); (case qqhu => ktr_units); k_whole; intro r' tl' h' tk' F' N' o1' o2'; (try k_sweep))))
  k_with "m_shows" => (refine' And.intro ?qqa1 (And.intro ?qqa2 ?qqa3); (case qqa1 => (refine' Dt.shows ?qqx ?qqy ?qqz; (case qqy => assumption); (case qqx => assumption); (case qqz => (intro p hp; (walk_at "tb_rel"))))); (case qqa2 => (refine' Dt.shows ?qqx ?qqy ?qqz; (case qqy => assumption); (case qqx => assumption); (case qqz => (intro p hp; (walk_at "tb_rel"))))); (case qqa3 => (refine' Dt.shows ?qqx ?qqy ?qqz; (case qqy => assumption); (case qqx => assumption); (case qqz => (intro p hp; (walk_at "tb_rel"))))))
  k_with "k_inst" => (refine' instE ?qqN ?qqh1 ?qqh2; (case qqN => k_asm); (case qqh1 => k_mem); (case qqh2 => k_mem))
  k_with "getAttr ref" => (k_here; k_dflt (first
  | ((with_reducible show wpAny _ _ (getAttr (Value.ref _) ("args" : Str) _) _ _ _); refine' getE_args ?qqF ?qqX ?qqI ?qqhg ?qqhf ?_; (case qqF => k_asm); (case qqX => k_asm); (case qqI => k_inst); (case qqhg => kernel_rfl); (case qqhf => first | kernel_rfl | k_is | exact rfl); k_whole)
  | (refine' getE_own ?qqF ?qqX ?qqI ?qqhg ?qqhh ?qqha ?qqhn ?qqhl ?qqhv ?_; (case qqF => k_asm); (case qqX => k_asm); (case qqI => k_inst); (case qqhg => kernel_rfl); (case qqhh => kernel_rfl); (case qqha => k_is); (case qqhn => kernel_rfl); (case qqhl => k_get); (case qqhv => first | exact rfl | exact Bd.handed (by assumption)); k_whole)))
  k_with "call builtin:hasattr" => (k_here; k_dflt (refine' hasattrE ?qqF ?qqX ?qqN ?qqhA ?qqI ?qqhg ?qqhm ?qqhf ?qqhnm ?qqhn ?_; (case qqF => k_asm); (case qqX => k_asm); (case qqN => k_asm); (case qqhA => exact rfl); (case qqI => k_inst); (case qqhg => kernel_rfl); (case qqhm => k_is); (case qqhf => first | kernel_rfl | k_is | exact rfl); (case qqhnm => kernel_rfl); (case qqhn => exact Nat.le_of_ble_eq_true rfl); k_whole); intro h' tk' F' N'; (try k_sweep))
  k_with "m_flat" => exact told3_ascii (Dt.ok (by assumption)) (Dt.ok (by assumption)) (Dt.ok (by assumption))
  k_with "m_rds" => first | exact ReadsAll.nil | (refine' ReadsAll.cons ?qqea ?qqeb; (case qqea => exact Reads.str _ _); (case qqeb => (walk_at "m_rds")))
  k_with "m_seq" => (refine' rd_list ?qqN ?qqm ?qqr; (case qqN => k_asm); (case qqm => k_mem); (case qqr => (walk_at "m_rds")))
  k_with "m_shaped" => ((refine shaped_list ?_); (repeat (first | exact List.forall_mem_nil _ | refine List.forall_mem_cons.mpr ⟨by (walk_at "m_flat"), ?_⟩)))
  k_with "compareOp NotEq ref ref" => (k_here; k_dflt (refine' ne_same ?qqra ?qqrb ?qqhs ?qqhu ?_; (case qqra => (walk_at "m_seq")); (case qqrb => (walk_at "m_seq")); (case qqhs => (walk_at "m_shaped")); (case qqhu => ktr_units); k_whole))
  k_with "binaryOp Mult ref int" => (k_here; k_dflt (refine' KMa.mul ?qqF ?qqN ?qql ?qqlo ?qqhi ?qqz ?qqe ?_; (case qqF => k_asm); (case qqN => k_asm); (case qql => (refine' isL3 ?qqN9 ?qqm9; (case qqN9 => k_asm); (case qqm9 => k_mem))); (case qqlo => decide); (case qqhi => decide); (case qqz => (simp only [List.length_cons, List.length_nil]; decide)); (case qqe => (simp only [Int.reduceToNat, List.replicate_succ, List.replicate_zero, List.flatten_cons, List.flatten_nil, List.cons_append, List.nil_append, List.append_nil]; first | done | exact rfl)); k_whole); intro D' h' F' N' qql1; (try k_lt qql1); (try k_sweep))
  k_with "exec For Name List cons nil" => (k_here; refine wpAny_For ?_ (fun _ => rfl))
  trivial
noncomputable abbrev exd (P : Params) (d1 d2 d3 : PyData) (v1 v2 : Value) (u k1 k2 k3 : Tok) : Obj := dictOf [⟨PyData.keyHash P (Str.ofString "message"), .str (Str.ofString "message") k1, .str (told3 d1.shown d2.shown d3.shown) u⟩, ⟨PyData.keyHash P (Str.ofString "option"), .str (Str.ofString "option") k2, v1⟩, ⟨PyData.keyHash P (Str.ofString "section"), .str (Str.ofString "section") k3, v2⟩] 3
theorem one_turn3 {w : World} {body : List Stmt} {cs : Scope} (hbody : body = lawInner3 w.params) (hcs : cs = lawScope3 w.params) :
   ∀ (loose : List PySem.Str) (mean : ExcName → Option Value) (mg mb : PySem.Str → Option Value) (dp un : Nat) (a : Addr) (ccd : Value) (cl : List (PySem.Str × Addr)) (outer : List Env) (A₀ : Around) (base h₀ : Heap) (L : Addr) (m : PySem.Str → Option Value) (news news0 : List (Addr × Obj)) (s : Shared)
    (Q : Flow → Shared → Prop) (E : Value → Shared → Prop) (x t d : Addr) (v1 v2 v3 : Value) (d1 d2 d3 : PyData) (u k1 k2 k3 : Tok),
    Below A₀ base outer h₀ → Fr h₀ L s.heap m → (Mine.hd.heap_39 w.params).In h₀ → News h₀ L s.heap news → Top Mine.hd.view_39 loose mean mg mb h₀ → dp + 160 < recursionLimit → un + 700 < cLine →
    (∀ p ∈ news0, p ∈ news) → Bd news d1 v1 → Bd news d2 v2 → Bd news d3 v3 → Dt d1 → Dt d2 → Dt d3 →
    m (Str.ofString "one") = some (.ref x) → m (Str.ofString "option") = some v1 → m (Str.ofString "section") = some v2 → m (Str.ofString "rawval") = some v3 →
    (x, excObj 78 t (some d)) ∈ news → (t, tupObj [v1, v2, v3]) ∈ news → (d, exd w.params d1 d2 d3 v1 v2 u k1 k2 k3) ∈ news →
    (∀ h' tk', Fr h₀ L h' m → News h₀ L h' news → Q .next { s with heap := h', toks := tk' }) →
    wpAny (model Challenge.rw_dm0030_03.row.prog w) (ktrTop dp un (some []) (Str.ofString "law") cs L a ccd cl outer) (execs body (envX (Str.ofString "law") cs L a ccd cl)) Q E s := by
  (conv at hbody => (rhs; whnf))
  (conv at hcs => (rhs; whnf))
  subst hbody
  subst hcs
  k_fill
  intro loose mean mg mb dp un a ccd cl outer A₀ base h₀ L m news news0 s Q E x t d v1 v2 v3 d1 d2 d3 u k1 k2 k3 B F X N T9 hd hu hsub hb1 hb2 hb3 hd1 hd2 hd3 n1 n2 n3 n4 m1 m2 m3 hret
  have e : (fun y => if y = Str.ofString "one" then some (Value.ref x) else if y = Str.ofString "option" then some v1 else if y = Str.ofString "section" then some v2 else if y = Str.ofString "rawval" then some v3 else m y) = m := by
    funext y
    repeat (first | rfl | (split; (rename_i e; rw [e]; first | exact n1.symm | exact n2.symm | exact n3.symm | exact n4.symm)))
  have F2 : Fr h₀ L s.heap (fun y => if y = Str.ofString "one" then some (Value.ref x) else if y = Str.ofString "option" then some v1 else if y = Str.ofString "section" then some v2 else if y = Str.ofString "rawval" then some v3 else m y) := by rw [e]; exact F
  have ret2 : ∀ h' tk', Fr h₀ L h' (fun y => if y = Str.ofString "one" then some (Value.ref x) else if y = Str.ofString "option" then some v1 else if y = Str.ofString "section" then some v2 else if y = Str.ofString "rawval" then some v3 else m y) → News h₀ L h' news → Q .next { s with heap := h', toks := tk' } := by
    intro h' tk' F' N'
    rw [e] at F'; exact hret h' tk' F' N'
  clear e
  clear hret F n1 n2 n3 n4 hsub
  k_steps
  (rename Fr _ _ _ _ => lF); (rename News _ _ _ _ => lN)
  exact ret2 _ _ lF (fun p hp => lN p (by (walk_at "tb_rel")))
end Mine
end
theorem Mine.kw_F16 : True := by
  k_with_none
  trivial
section

open PySem PySem.W PyProof.Rows PySem.Calls PySem.Spec
set_option maxRecDepth 100000
set_option maxHeartbeats 400000
namespace Mine
section
variable {prog : Program} {w : World} {A : Around} {E : Value → Shared → Prop} {s : Shared} {env : Env} {h₀ : Heap} {Q : Flow → Shared → Prop} {body : List Stmt} {news : List (Addr × Obj)} {m₀ : Str → Option Value}
theorem iter_any {elts : List Expr} {ec : Nat} {ep : Pos} {ax : Addr} {vs : Array Value} {n0 : Nat} (hh : A.handled = none) (F : Fr h₀ env.locals s.heap m₀) (N : News h₀ env.locals s.heap news) (hm : (ax, listOf vs n0) ∈ news)
    (turn : ∀ (I : Addr) (i : Nat) (v : Value) (h : Heap) (tk : Nat) (oI : Obj) (m₁ : Str → Option Value), vs[i]? = some v → (∀ p ∈ news, p.1 ≠ I) → Fr h₀ env.locals h m₁ → News h₀ env.locals h ((I, oI) :: news) →
      wpAny (model prog w) A (assign (.Tuple elts ec ep) env v) (fun _ s₁ => wpAny (model prog w) A (execs body env) (TurnQ h₀ env.locals I [(I, oI)] (fun _ nx => nx = news) s Q) E s₁) E { s with heap := h, toks := tk })
    (done : ∀ (m₁ : Str → Option Value) h tk, Fr h₀ env.locals h m₁ → News h₀ env.locals h news → Q .next { s with heap := h, toks := tk })
    (hE : PassesOwn (model prog w) A env E) (hvr : ∀ (i : Nat) (v : Value), vs[i]? = some v → ∃ T : Addr, v = Value.ref T) :
    wpAny (model prog w) A (pyIter (.ref ax)) (fun it s₂ => codeAny (model prog w) A (.forLoop (.Tuple elts ec ep) it body [] env) (fun r s' => match r with | .ok f => Q f s' | .error e => cameBackBy (model prog w) A env E e s') s₂) E s := by
  have hls : s.heap.IsList ax vs := ⟨_, (N _ hm).1, rfl, _, rfl⟩
  refine wpAny_pyIter_list hls ?_
  have hlt : ax < s.heap.objs.size := Heap.lt_size (N _ hm).1
  refine forOwnG (oa := listOf vs n0) (s := { s with heap := s.heap.push _ }) (Walks.list hh s.heap.objs.size ax (Nat.ne_of_lt hlt) vs) ?_ (Nat.ne_of_lt F.ns.lt) ⟨⟨_, Heap.get?_push_size _ rfl, rfl, rfl⟩, hls.at fun o e => Heap.get?_push_of_some _ e⟩ (F.push _) (fun p hp => ⟨Heap.get?_push_of_some _ (N p hp).1, (N p hp).2⟩) (fun p hp => Nat.ne_of_lt (Heap.lt_size (N p hp).1))
    (fun i h st => by obtain ⟨o, e, _⟩ := st.1; exact ⟨o, e⟩) (fun _ _ nx => nx = news) (fun _ _ _ j => j ▸ hm) rfl ?_ ?_ hE (fun i v s Q E hP hst hQ => by obtain ⟨T, rfl⟩ := hvr i v hP; exact wpAny_letOwnedTupleGo_listiter hst.1 hQ)
  · exact next_is_new F
  · rintro i v m₁ nx h tk oI hi hv rfl ha F₁ N₁
    exact turn _ i v h tk oI m₁ hv ha F₁ N₁
  · rintro m₁ nx h tk rfl F₁ N₁
    exact done m₁ h tk F₁ N₁
theorem any_turn {L I : Addr} {oI : Obj} {m' : Str → Option Value} {h' : Heap} {tk : Nat} (F : Fr h₀ L h' m') (N : News h₀ L h' ((I, oI) :: news)) (hi : ∀ p ∈ news, p.1 ≠ I) :
    TurnNext h₀ L I [(I, oI)] (fun _ nx => nx = news) s { s with heap := h', toks := tk } := ⟨h', tk, m', news, rfl, F, N, hi, rfl⟩
end
theorem phi_mem : ∀ {ds : List PyData} {d : PyData}, d ∈ ds → (shC d).length + 2 ≤ phi ds
  | e :: ds, d, h => by
    simp only [phi]
    rcases List.mem_cons.mp h with rfl | h
    · omega
    · have := phi_mem h; omega
theorem st_out {tl : List (Addr × Obj)} {r : Value} (h : ∃ ds, Bd tl (.list ds) r ∧ OkAll ds ∧ ds ≠ [] ∧ ds.length ≤ 40 ∧ PyData.depthAll ds ≤ 32 ∧ phi ds ≤ 500) :
    ∃ (P : Nat) (vs : List Value) (n : Nat) (v1 vl : Value) (d1 dl : PyData) (ds : List PyData), r = .ref P ∧ (P, W.listOf vs.toArray n) ∈ tl ∧ 0 < vs.length ∧ vs.length ≤ 40 ∧ vs[0]? = some v1 ∧ vs[vs.length - 1]? = some vl ∧ Bd tl d1 v1 ∧ Bd tl dl vl ∧ Bd tl (.list ds) (.ref P) ∧ Dt d1 ∧ Dt dl ∧ Dt (.list ds) := by
  obtain ⟨ds, hb, ok, hne, hl, hd, hp⟩ := h
  have hb0 := hb
  simp only [Bd] at hb
  obtain ⟨P, vs, n, rfl, hm, hall⟩ := hb
  have hlen := hall.length
  have hpos : 0 < ds.length := by
    cases ds with
    | nil => exact absurd rfl hne
    | cons _ _ => simp
  have key : ∀ i, i < ds.length → ∃ d v, vs[i]? = some v ∧ Bd tl d v ∧ Dt d := by
    intro i hi
    have e : ds[i]? = some ds[i] := List.getElem?_eq_getElem hi
    obtain ⟨v, h1, h2⟩ := hall.get e
    have hph := phi_mem (List.mem_of_getElem? e)
    exact ⟨_, v, h1, h2, ⟨OkAll.get ok e, Nat.le_trans (depth_get e) (by omega), by omega⟩⟩
  obtain ⟨d1, v1, a1, a2, a3⟩ := key 0 hpos
  obtain ⟨dl, vl, b1, b2, b3⟩ := key (ds.length - 1) (by omega)
  have hpl := phi_list ds
  exact ⟨P, vs, n, v1, vl, d1, dl, ds, rfl, hm, by omega, by omega, a1, by rw [hlen]; exact b1, a2, b2, hb0, a3, b3, ⟨by simp only [OkD]; exact ok, by simp only [PyData.depth]; omega, by omega⟩⟩
theorem callee_stack {prog : Program} {K : Params → Frag} {p : Program} {w : World} {f : Addr} {D U : Nat} {args : List Value} {kw : List (PySem.Str × Value)} {rel : List (Addr × Obj) → Prop}
    (C : Callee prog K p w f D U args kw rel (fun tl r => ∃ ds, Bd tl (.list ds) r ∧ OkAll ds ∧ ds ≠ [] ∧ ds.length ≤ 40 ∧ PyData.depthAll ds ≤ 32 ∧ phi ds ≤ 500))
    {loose : List PySem.Str} {mean : ExcName → Option Value} {mg mb : PySem.Str → Option Value} {dp un : Nat} {cn : PySem.Str} {cs : Scope} {a : Addr} {ccd : Value} {cl : List (PySem.Str × Addr)} {outer : List Env} {A₀ : Around} {base h₀ : Heap} {L : Addr} {m : PySem.Str → Option Value} {news : List (Addr × Obj)} {s : Shared}
    {Q E : Value → Shared → Prop}
    (B : Below A₀ base outer h₀) (F : Fr h₀ L s.heap m) (X : (K w.params).In h₀) (N : News h₀ L s.heap news) (T : Top p loose mean mg mb h₀) (hk : cs.kind = .function) (hr : rel news) (hd : dp + D < recursionLimit) (hu : un + U < cLine)
    (ret : ∀ tl h' tk' (P : Nat) (vs : List Value) (n : Nat) (v1 vl : Value) (d1 dl : PyData) (ds : List PyData), Fr h₀ L h' m → News h₀ L h' (tl ++ news) → (∀ p ∈ tl, ∀ q ∈ news, q.1 < p.1) → (P, W.listOf vs.toArray n) ∈ tl → 0 < vs.length → vs.length ≤ 40 → vs[0]? = some v1 → vs[vs.length - 1]? = some vl → Bd tl d1 v1 → Bd tl dl vl → Bd tl (.list ds) (.ref P) → Dt d1 → Dt dl → Dt (.list ds) → Q (.ref P) { s with heap := h', toks := tk' }) :
    wpAny (model prog w) (ktrTop dp un (some []) cn cs L a ccd cl outer) (call (.ref f) args kw) Q E s :=
  callee_use C B F X N T hk hr hd hu (fun r tl h' tk' F' N' up o => by obtain ⟨P, vs, n, v1, vl, d1, dl, ds, rfl, m1, p1, p2, q1, q2, b1, b2, b3, t1, t2, t3⟩ := st_out o; exact ret tl h' tk' P vs n v1 vl d1 dl ds F' N' up m1 p1 p2 q1 q2 b1 b2 b3 t1 t2 t3)
section
variable {prog : Program} {w : World} {A : Around} {E : Value → Shared → Prop} {s : Shared} {h₀ : Heap} {L a : Addr} {l : List (Addr × Obj)} {value slice : Expr} {vs : List Value} {v : Value} {k : Nat} {u : Tok} {Q : Value → Shared → Prop}
theorem itemF (N : News h₀ L s.heap l) (hm : (a, W.listOf vs.toArray k) ∈ l) (hv : vs[0]? = some v) (h : Q v s)
    (hs : subscripted slice false (.ref a) (.int 0 u) = operate [.ref a, .int 0 u] (getItem (.ref a) (.int 0 u))) (hg : ∀ r, letTemporaryGo value (.ref a) r = pure ()) :
    wpAny (model prog w) A (subscriptTail value slice (.ref a) (.int 0 u)) Q E s :=
  item_list (items := vs.toArray) ⟨_, (N _ hm).1, rfl, _, rfl⟩ (by omega) (by omega) (by simpa using hv) h hs hg
theorem itemB (N : News h₀ L s.heap l) (hm : (a, W.listOf vs.toArray k) ∈ l) (hl : 0 < vs.length) (hv : vs[vs.length - 1]? = some v) (h : Q v s)
    (hs : subscripted slice false (.ref a) (.int (-1) u) = operate [.ref a, .int (-1) u] (getItem (.ref a) (.int (-1) u))) (hg : ∀ r, letTemporaryGo value (.ref a) r = pure ()) :
    wpAny (model prog w) A (subscriptTail value slice (.ref a) (.int (-1) u)) Q E s := by
  have hls : s.heap.IsList a vs.toArray := ⟨_, (N _ hm).1, rfl, _, rfl⟩
  refine subscriptTail_builtin hls.typeIs slot_list_getitem.lookup (wpAny_getItem_list_neg hls (by omega) (by rw [List.size_toArray]; omega) (by omega) ?_ h) hs hg
  rw [List.size_toArray]
  have e : ((-1 : Int) + (vs.length : Int)).toNat = vs.length - 1 := by omega
  rw [e]; simpa using hv
end
end Mine
end
section

open PySem PySem.W PyProof.Rows PySem.Calls PySem.Spec
namespace Mine
theorem kw_T42 : True := by
  k_with_none
  trivial
theorem kw_T42_31 : True := by
  k_with "ktr_room" => (simp only [depth_under_make, depth_under_kw, depth_in1, depth_deeper, depth_caller, ktrTop]; omega)
  k_with "ktr_units" => (simp only [units_in1, units_deeper, Around.mark_units, units_caller, ktrTop]; omega)
  k_with "k_room" => ktr_room
  k_with "k_units" => ktr_units
  k_with "tb_rel" => (repeat (first | assumption | apply List.Mem.tail))
  k_with "k_all" => (first | refine allBelow (by assumption) ?_ | refine allBelow (tb_ltOf (by assumption)) ?_); (try dsimp only); omega
  k_with "k_mem" => first | exact List.Mem.head _ | assumption | (refine' List.Mem.tail _ ?_; k_mem)
  trivial
set_option maxRecDepth 100000
set_option maxHeartbeats 1000000
theorem kw_T42_32 : True := by
  k_with "m_enterC" => (refine' code_defC ?qqk1 ?qqk2 ?qqk3 ?qqk4 ?qqk5 ?qqkA ?qqkF ?qqkK ?qqk6 ?qqk7 ?qqk8 ?qqk9 ?qqkB ?qqkD ?_ ?qqc2 ?qqc3 ?qqc4; (case qqkA => exact rfl); (case qqkF => exact rfl); (case qqkK => assumption); (case qqk1 => k_asm); (case qqk2 => k_asm); (case qqk3 => k_asm); (case qqk4 => k_asm); (case qqk5 => k_asm); (case qqk6 => k_is); (case qqk7 => k_is); (case qqk8 => ktr_room); (case qqk9 => exact BindsTo.of_eq rfl); (case qqkB => exact rfl); (case qqkD => decide +kernel); (case qqc2 => exact rfl); (case qqc3 => exact rfl); (case qqc4 => exact rfl); k_whole; intro g' L' h' tk' cells' FG' F' N' Y' B' X' T' qql1; k_cells Y'; (try simp only [List.cons_append, List.nil_append] at N'); (try dsimp only); (try k_fold))
  k_with "exec For" => (k_here; refine wpAny_For ?_ (fun _ => rfl))
  k_with "exec For Tuple List cons nil" => (k_here; refine wpAny_For ?_ (fun _ => rfl))
  k_with "spliced" => (k_here; first | refine args_cons ?_ | (refine args_nil ?_; try dsimp only [List.cons_append, List.nil_append]))
  k_with "tb_rel" => (repeat (first | assumption | exact List.mem_append_left _ (by assumption) | apply List.Mem.tail | apply List.mem_append_right))
  k_with "k_mem" => first | exact List.Mem.head _ | assumption | (refine' List.Mem.tail _ ?_; k_mem) | (refine' List.mem_append_right _ ?_; k_mem)
  k_with "m_bd" => (refine' Bd.mono ?qqs ?qqb; (case qqb => assumption); (case qqs => (intro p hp; (walk_at "tb_rel"))))
  k_with "m_tail" => (k_whole; intro h' tk' F' N'; (try k_sweep))
  k_with "call ref" => (k_here; k_dflt (first
  | ((with_reducible show wpAny _ _ (call (Value.ref 36) _ _) _ _ _); refine' callee_val tell78 ?qqB ?qqF ?qqX ?qqN ?qqT ?qqhk ?qqhr ?qqhd ?qqhu ?_; (case qqB => k_asm); (case qqF => k_asm); (case qqX => k_asm); (case qqN => k_asm); (case qqhr => exact ⟨by k_mem, by k_mem⟩); (case qqT => k_asm); (case qqhk => exact rfl); (case qqhd => ktr_room); (case qqhu => ktr_units); (walk_at "m_tail"); (try dsimp only [StrBack]))
  | ((with_reducible show wpAny _ _ (call (Value.ref 120) _ _) _ _ _); first
    | (refine' callee_val (same_args ?qqd1 ?qqd2 ?qqd3) ?qqB ?qqF ?qqX ?qqN ?qqT ?qqhk ?qqhr ?qqhd ?qqhu ?_; (case qqB => k_asm); (case qqF => k_asm); (case qqX => k_asm); (case qqN => k_asm); (case qqhr => (refine' And.intro ?qqm1 (And.intro ?qqm2 (And.intro ?qqm3 (And.intro ?qqm4 (And.intro ?qqb1 (And.intro ?qqb2 ?qqb3))))); (case qqm1 => k_mem); (case qqm2 => k_mem); (case qqm3 => k_mem); (case qqm4 => k_mem); (case qqb1 => walk_at "m_bd"); (case qqb2 => walk_at "m_bd"); (case qqb3 => walk_at "m_bd"))); (case qqd1 => assumption); (case qqd2 => assumption); (case qqd3 => assumption); (case qqT => k_asm); (case qqhk => exact rfl); (case qqhd => ktr_room); (case qqhu => ktr_units); (walk_at "m_tail"))
    | (refine' callee_val (same_told ?qqd1 ?qqd2 ?qqd3) ?qqB ?qqF ?qqX ?qqN ?qqT ?qqhk ?qqhr ?qqhd ?qqhu ?_; (case qqB => k_asm); (case qqF => k_asm); (case qqX => k_asm); (case qqN => k_asm); (case qqhr => (refine' And.intro ?qqm1 (And.intro ?qqm2 (And.intro ?qqb1 (And.intro ?qqb2 ?qqb3))); (case qqm1 => walk_at "m_bd"); (case qqm2 => k_mem); (case qqb1 => walk_at "m_bd"); (case qqb2 => walk_at "m_bd"); (case qqb3 => walk_at "m_bd"))); (case qqd1 => assumption); (case qqd2 => assumption); (case qqd3 => assumption); (case qqT => k_asm); (case qqhk => exact rfl); (case qqhd => ktr_room); (case qqhu => ktr_units); (walk_at "m_tail")))
  | ((with_reducible show wpAny _ _ (call (Value.ref 78) (_ :: _) _) _ _ _); refine' callee_exc mk78 ?qqB ?qqF ?qqX ?qqN ?qqT ?qqhk ?qqhr ?qqhd ?qqhu ?_; (case qqB => k_asm); (case qqF => k_asm); (case qqX => k_asm); (case qqN => k_asm); (case qqhr => walk_at "m_shows"); (case qqT => k_asm); (case qqhk => exact rfl); (case qqhd => ktr_room); (case qqhu => ktr_units); k_whole; intro x' d' t' u' k1' k2' k3' h' tk' F' N'; (try k_sweep))
  | ((with_reducible show wpAny _ _ (call (Value.ref 78) [] _) _ _ _); refine' callee_exc mk78k ?qqB ?qqF ?qqX ?qqN ?qqT ?qqhk ?qqhr ?qqhd ?qqhu ?_; (case qqB => k_asm); (case qqF => k_asm); (case qqX => k_asm); (case qqN => k_asm); (case qqhr => walk_at "m_shows"); (case qqT => k_asm); (case qqhk => exact rfl); (case qqhd => ktr_room); (case qqhu => ktr_units); k_whole; intro x' d' t' u' k1' k2' k3' h' tk' F' N'; (try k_sweep))
  | ((with_reducible show wpAny _ _ (call (Value.ref 127) _ _) _ _ _); refine' callee_use (told_spec ?qqo1 ?qqo2 ?qqo3 ?qqp1 ?qqp2 ?qqp3 ?qql1 ?qql2 ?qql3) ?qqB ?qqF ?qqX ?qqN ?qqT ?qqhk trivial ?qqhd ?qqhu ?_; (case qqo1 => exact Dt.ok (by assumption)); (case qqo2 => exact Dt.ok (by assumption)); (case qqo3 => exact Dt.ok (by assumption)); (case qqp1 => exact Dt.dep (by assumption)); (case qqp2 => exact Dt.dep (by assumption)); (case qqp3 => exact Dt.dep (by assumption)); (case qql1 => exact Dt.len (by assumption)); (case qql2 => exact Dt.len (by assumption)); (case qql3 => exact Dt.len (by assumption)); (case qqB => k_asm); (case qqF => k_asm); (case qqX => k_asm); (case qqN => k_asm); (case qqT => k_asm); (case qqhk => exact rfl); (case qqhd => ktr_room); (case qqhu => ktr_units); k_whole; intro r' tl' h' tk' F' N' o1' o2'; (try k_sweep))))
  k_with "m_shows" => (refine' And.intro ?qqa1 (And.intro ?qqa2 ?qqa3); (case qqa1 => (refine' Dt.shows ?qqx ?qqy ?qqz; (case qqy => assumption); (case qqx => assumption); (case qqz => (intro p hp; (walk_at "tb_rel"))))); (case qqa2 => (refine' Dt.shows ?qqx ?qqy ?qqz; (case qqy => assumption); (case qqx => assumption); (case qqz => (intro p hp; (walk_at "tb_rel"))))); (case qqa3 => (refine' Dt.shows ?qqx ?qqy ?qqz; (case qqy => assumption); (case qqx => assumption); (case qqz => (intro p hp; (walk_at "tb_rel"))))))
  k_with "k_inst" => (refine' instE ?qqN ?qqh1 ?qqh2; (case qqN => k_asm); (case qqh1 => k_mem); (case qqh2 => k_mem))
  k_with "getAttr ref" => (k_here; k_dflt (first
  | ((with_reducible show wpAny _ _ (getAttr (Value.ref _) ("args" : Str) _) _ _ _); refine' getE_args ?qqF ?qqX ?qqI ?qqhg ?qqhf ?_; (case qqF => k_asm); (case qqX => k_asm); (case qqI => k_inst); (case qqhg => kernel_rfl); (case qqhf => first | kernel_rfl | k_is | exact rfl); k_whole)
  | (refine' getE_own ?qqF ?qqX ?qqI ?qqhg ?qqhh ?qqha ?qqhn ?qqhl ?qqhv ?_; (case qqF => k_asm); (case qqX => k_asm); (case qqI => k_inst); (case qqhg => kernel_rfl); (case qqhh => kernel_rfl); (case qqha => k_is); (case qqhn => kernel_rfl); (case qqhl => k_get); (case qqhv => first | exact rfl | exact Bd.handed (by assumption)); k_whole)))
  k_with "call builtin:hasattr" => (k_here; k_dflt (refine' hasattrE ?qqF ?qqX ?qqN ?qqhA ?qqI ?qqhg ?qqhm ?qqhf ?qqhnm ?qqhn ?_; (case qqF => k_asm); (case qqX => k_asm); (case qqN => k_asm); (case qqhA => exact rfl); (case qqI => k_inst); (case qqhg => kernel_rfl); (case qqhm => k_is); (case qqhf => first | kernel_rfl | k_is | exact rfl); (case qqhnm => kernel_rfl); (case qqhn => exact Nat.le_of_ble_eq_true rfl); k_whole); intro h' tk' F' N'; (try k_sweep))
  k_with "m_flat" => exact told3_ascii (Dt.ok (by assumption)) (Dt.ok (by assumption)) (Dt.ok (by assumption))
  k_with "m_rds" => first | exact ReadsAll.nil | (refine' ReadsAll.cons ?qqea ?qqeb; (case qqea => exact Reads.str _ _); (case qqeb => (walk_at "m_rds")))
  k_with "m_seq" => (refine' rd_list ?qqN ?qqm ?qqr; (case qqN => k_asm); (case qqm => k_mem); (case qqr => (walk_at "m_rds")))
  k_with "m_shaped" => ((refine shaped_list ?_); (repeat (first | exact List.forall_mem_nil _ | refine List.forall_mem_cons.mpr ⟨by (walk_at "m_flat"), ?_⟩)))
  k_with "compareOp NotEq ref ref" => (k_here; k_dflt (refine' ne_same ?qqra ?qqrb ?qqhs ?qqhu ?_; (case qqra => (walk_at "m_seq")); (case qqrb => (walk_at "m_seq")); (case qqhs => (walk_at "m_shaped")); (case qqhu => ktr_units); k_whole))
  k_with "binaryOp Mult ref int" => (k_here; k_dflt (refine' KMa.mul ?qqF ?qqN ?qql ?qqlo ?qqhi ?qqz ?qqe ?_; (case qqF => k_asm); (case qqN => k_asm); (case qql => (refine' isL3 ?qqN9 ?qqm9; (case qqN9 => k_asm); (case qqm9 => k_mem))); (case qqlo => decide); (case qqhi => decide); (case qqz => (simp only [List.length_cons, List.length_nil]; decide)); (case qqe => (simp only [Int.reduceToNat, List.replicate_succ, List.replicate_zero, List.flatten_cons, List.flatten_nil, List.cons_append, List.nil_append, List.append_nil]; first | done | exact rfl)); k_whole); intro D' h' F' N' qql1; (try k_lt qql1); (try k_sweep))
  k_with "exec For Name List cons nil" => (k_here; refine wpAny_For ?_ (fun _ => rfl))
  trivial
theorem two_of3 {a b v : Value} {i : Nat} (h : (#[a, b] : Array Value)[i]? = some v) : v = a ∨ v = b := by
  match i, h with
  | 0, h => exact .inl (by simpa using h.symm)
  | 1, h => exact .inr (by simpa using h.symm)
  | n + 2, h => simp at h
theorem turn3 {w : World} {body : List Stmt} {cs : Scope} {tgt : Expr} (hbody : body = lawTurn3 w.params) (hcs : cs = lawScope3 w.params) (htg : tgt = lawTarget3 w.params) :
   ∀ (loose : List PySem.Str) (mean : ExcName → Option Value) (mg mb : PySem.Str → Option Value) (dp un : Nat) (a : Addr) (ccd : Value) (cl : List (PySem.Str × Addr)) (outer : List Env) (A₀ : Around) (base h₀ : Heap) (L : Addr) (m : PySem.Str → Option Value) (news : List (Addr × Obj)) (s : Shared)
    (Q : Flow → Shared → Prop) (E : Value → Shared → Prop) (t : Addr) (v1 v2 v3 : Value) (d1 d2 d3 : PyData),
    Below A₀ base outer h₀ → Fr h₀ L s.heap m → (Mine.hd.heap_39 w.params).In h₀ → News h₀ L s.heap news → Top Mine.hd.view_39 loose mean mg mb h₀ → dp + 320 < recursionLimit → un + 1400 < cLine →
    Bd news d1 v1 → Bd news d2 v2 → Bd news d3 v3 → Dt d1 → Dt d2 → Dt d3 → (t, tupObj [v1, v2, v3]) ∈ news →
    (True → PassesOwn (model Challenge.rw_dm0030_03.row.prog w) (ktrTop dp un (some []) (Str.ofString "law") cs L a ccd cl outer) (envX (Str.ofString "law") cs L a ccd cl) E) →
    (∀ m' h' tk', Fr h₀ L h' m' → News h₀ L h' news → Q .next { s with heap := h', toks := tk' }) →
    wpAny (model Challenge.rw_dm0030_03.row.prog w) (ktrTop dp un (some []) (Str.ofString "law") cs L a ccd cl outer) (assign tgt (envX (Str.ofString "law") cs L a ccd cl) (.ref t)) (fun _ s₁ => wpAny (model Challenge.rw_dm0030_03.row.prog w) (ktrTop dp un (some []) (Str.ofString "law") cs L a ccd cl outer) (execs body (envX (Str.ofString "law") cs L a ccd cl)) Q E s₁) E s := by
  (conv at hbody => (rhs; whnf))
  (conv at hcs => (rhs; whnf))
  (conv at htg => (rhs; whnf))
  subst hbody
  subst hcs
  subst htg
  k_fill
  intro loose mean mg mb dp un a ccd cl outer A₀ base h₀ L m news s Q E t v1 v2 v3 d1 d2 d3 B F X N T9 hd hu hb1 hb2 hb3 hd1 hd2 hd3 m1 hpo hret
  k_steps
  (rename Fr _ _ _ _ => lF); (rename News _ _ _ _ => lN)
  refine' iter_listN (x := Str.ofString "one") ?hh lF lN ?hm ?hx ?hp ?turn ?done ?hpo
  case hh => rfl
  case hx => rfl
  case hp => rfl
  case hpo => exact hpo trivial
  case hm => k_mem
  case turn =>
    intro I2 i2 v2' h2 tk2 oI2 hv2 hI2 F2 N2
    clear lF lN
    have hc : v2' = _ ∨ v2' = _ := two_of3 hv2
    rcases hc with rfl | rfl
    all_goals
      refine' one_turn3 (news0 := []) rfl rfl _ _ _ _ _ _ _ _ _ _ _ _ _ _ _ _ _ _ _ _ _ _ _ _ _ _ _ _ _ _ _ _ B F2 X N2 T9 ?hd ?hu ?hsub ?b1 ?b2 ?b3 ?w1 ?w2 ?w3 ?e1 ?e2 ?e3 ?e4 ?m1 ?m2 ?m3 ?hret
      case e1 => rfl
      case e2 => rfl
      case e3 => rfl
      case e4 => rfl
      case hsub => exact fun p hp => absurd hp List.not_mem_nil
      case m1 => k_mem
      case m2 => k_mem
      case m3 => k_mem
      case b1 => walk_at "m_bd"
      case b2 => walk_at "m_bd"
      case b3 => walk_at "m_bd"
      case w1 => assumption
      case w2 => assumption
      case w3 => assumption
      case hd => omega
      case hu => omega
      case hret =>
        intro h' tk' F' N'
        exact list_turn F' N' hI2 (.head _) (fun p hp => .tail _ hp) (fun z hz => by simp only [if_neg hz])
  case done =>
    intro u2 h2 tk2 F2 N2
    clear lF lN
    dsimp only
    k_steps
    (rename Fr _ _ _ _ => lF'); (rename News _ _ _ _ => lN')
    exact hret _ _ _ lF' (fun p hp => lN' p (by (walk_at "tb_rel")))
end Mine
end
section

open PySem PySem.W PyProof.Rows PySem.Calls PySem.Spec
open Mine
theorem Mine.kw_T43 : True := by
  k_with_none
  trivial
theorem Mine.kw_T43_33 : True := by
  k_with "ktr_room" => first | decide | (simp only [depth_under_make, depth_under_kw, depth_in1, depth_deeper, depth_caller, ktrTop]; omega)
  k_with "ktr_units" => first | decide | (simp only [units_in1, units_deeper, Around.mark_units, units_caller, ktrTop]; omega)
  k_with "k_all" => (first | refine allBelow (by assumption) ?_ | refine allBelow (tb_ltOf (by assumption)) ?_); (try dsimp only); omega
  k_with "tb_rel" => (repeat (first | assumption | exact List.mem_append_left _ (by assumption) | apply List.Mem.tail | apply List.mem_append_right))
  k_with "k_mem" => first | exact List.Mem.head _ | assumption | (refine' List.Mem.tail _ ?_; k_mem) | exact List.mem_append_left _ (by assumption) | (refine' List.mem_append_right _ ?_; k_mem)
  k_with "m_bd" => (refine' Bd.mono ?qqs ?qqb; (case qqb => assumption); (case qqs => (intro p hp; (walk_at "tb_rel"))))
  k_with "call ref" => (k_here; k_dflt ((with_reducible show wpAny _ _ (call (Value.ref 94) _ _) _ _ _); refine' callee_stack (stack_spec ?qqi ?qqn) ?qqB ?qqF ?qqX ?qqN ?qqT ?qqhk ?qqhr ?qqhd ?qqhu ?_; (case qqB => k_asm); (case qqF => k_asm); (case qqX => k_asm); (case qqN => k_asm); (case qqhr => k_mem); (case qqi => assumption); (case qqn => (simp only [List.length_take]; omega)); (case qqT => k_asm); (case qqhk => exact rfl); (case qqhd => decide); (case qqhu => decide); k_whole; intro tl' h' tk' P' vs' n' v1' vl' d1' dl' ds' F' N' o1' m1' p1' p2' q1' q2' b1' b2' b3' t1' t2' t3'; (try k_sweep)))
  k_with "subscriptTail Name Constant ref int" => (k_here; k_dflt (refine' itemF ?qqN ?qqm ?qqv ?_ ?qqa ?qqb; (case qqN => k_asm); (case qqv => assumption); (case qqm => k_mem); (case qqa => with_unfolding_all rfl); (case qqb => (intro _; with_unfolding_all rfl)); k_whole))
  k_with "subscriptTail Name UnaryOp ref int" => (k_here; k_dflt (refine' itemB ?qqN ?qqm ?qql ?qqv ?_ ?qqa ?qqb; (case qqN => k_asm); (case qqm => k_mem); (case qql => assumption); (case qqv => assumption); (case qqa => with_unfolding_all rfl); (case qqb => (intro _; with_unfolding_all rfl)); k_whole))
  k_with "exec For Tuple List cons nil" => (k_here; refine wpAny_For ?_ (fun _ => rfl))
  trivial
set_option maxRecDepth 100000
set_option maxHeartbeats 4000000
theorem PySem.Challenge.cw_dm0030_03_holds : PySem.Challenge.rw_dm0030_03.Holds := by
  refine Mine.hd ?_
  w_strict (k_go0; (all_goals try k_fold); k_steps)
  (rename Fr _ _ _ _ => lF); (rename News _ _ _ _ => lN)
  refine' iter_any ?hh lF lN ?hm ?turn ?done ?po ?hv
  case hh => rfl
  case hm => exact List.Mem.head _
  case po => passes_own
  case hv => (intro i v hv; rcases three_of hv with ⟨_, rfl⟩ | ⟨_, rfl⟩ | ⟨_, rfl⟩ <;> exact ⟨_, rfl⟩)
  case turn =>
    intro I i v h tk oI m₁ hv hI F9 N9
    clear lF lN
    rcases three_of hv with ⟨_, rfl⟩ | ⟨_, rfl⟩ | ⟨_, rfl⟩
    all_goals
      refine' turn3 rfl rfl rfl _ _ _ _ _ _ _ _ _ _ _ _ _ _ _ _ _ _ _ _ _ _ _ _ _ _ ?B F9 ?X N9 ?T ?hd ?hu ?b1 ?b2 ?b3 ?w1 ?w2 ?w3 ?m1 ?po ?hret
      case m1 => k_mem
      case b1 => walk_at "m_bd"
      case b2 => walk_at "m_bd"
      case b3 => walk_at "m_bd"
      case w1 => assumption
      case w2 => assumption
      case w3 => assumption
      case B => k_asm
      case X => k_asm
      case T => k_asm
      case hd => decide
      case hu => decide
      case po => (intro _; passes_own)
      case hret =>
        intro m' h' tk' F' N'
        exact any_turn F' N' hI
  case done =>
    intro m₁ h tk F9 N9
    clear lF lN
    dsimp only
    k_steps
end

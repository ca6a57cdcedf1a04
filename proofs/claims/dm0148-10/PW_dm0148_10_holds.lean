import PyProof.Rows.All
import Wide.All
import OpenK.AllK
import Wide.FinOn
import PySem.Challenge.RW_dm0148_10
set_option Elab.async false
set_option compiler.extract_closed false

-- Top10
section
open PySem PySem.W PyProof.Rows
namespace Mine10
set_option maxRecDepth 100000 in
set_option maxHeartbeats 8000000 in
open_top hd10 for PySem.Challenge.rw_dm0148_10
end Mine10
end

-- Ast10
section
open PySem PySem.W PyProof.Rows PySem.Calls
set_option linter.unusedVariables false
namespace Mine10
abbrev prog10 : Program := PySem.Challenge.rw_dm0148_10.row.prog
def nthS (l : List Stmt) (i : Nat) : Stmt := l.getD i (.Pass default)
def suite : Stmt → List Stmt
  | .For _ _ b _ _ => b
  | .While _ b _ _ => b
  | .FunctionDef _ _ b _ _ _ _ _ _ _ => b
  | .If _ b _ _ => b
  | _ => []
def orel : Stmt → List Stmt
  | .If _ _ b _ => b
  | _ => []
def scopeS : Stmt → Scope
  | .FunctionDef _ _ _ _ _ _ sc _ _ _ => sc
  | _ => default
def nameS : Stmt → Str
  | .FunctionDef n _ _ _ _ _ _ _ _ _ => n
  | _ => Str.ofString "?"
def mainB : List Stmt := PySem.Challenge.rw_dm0148_10.row.prog.main.body
def defAt (i : Nat) : Stmt := nthS mainB i
end Mine10
namespace Mine10
def lawDef : Stmt := nthS mainB 14
def lawScope : Scope := scopeS lawDef
def lawB : List Stmt := suite lawDef
abbrev lawE (L a : Addr) (ccd : Value) : Env := envOf (Str.ofString "law") lawScope L a ccd
end Mine10
end

-- Exc
section
theorem Mine.offExc : True := by
  w_top off
  trivial
open PySem PySem.W PyProof.Rows PySem.Spec PySem.Calls
set_option maxRecDepth 100000
namespace Mine

/-- an exception of an own class, as it is born: its arguments' tuple at `tx` -/
abbrev excObj (C tx : Addr) : Obj := { cls := .ref C, data := .fields #[.ref tx, .none, .none, .none, .bool false, .none] }
abbrev tupObj (vs : List Value) : Obj := { cls := .type "tuple", data := .seq vs.toArray }

section
variable {prog : Program} {w : World} {A : Around} {E : Value → Shared → Prop} {K : Frag} {C : Addr} {h : Heap} {g : Array GenState} {d : Drawn} {t : Nat} {os : OsState}
variable {nm q : Str} {N : Addr} {bs bm bmB : List Value} {hdct : Bool} {sn : List Str} {sub : List Value} {ab : Bool} {col : Option Bool} {dd : Option Addr} {k0 k1 k2 k3 k5 : Option Value} {B newId initId : String}

theorem exc_type_call (F : ExcBaseFacts B newId initId bmB) (T : OwnTail h bmB bm) {rest : List Value} {fI : Addr} {Q : Fin → Shared → Prop} (X : K.In h)
    (hC : K.lookup C = some (excClassObj nm q C N bs bm hdct sn sub ab col dd k0 k1 k2 k3 k5 newId)) (hi : findIn K (.ref C) "__init__" = some (some (.ref fI))) (hf : typeIn K (.ref fI) = some (.type "function"))
    (hq : codeAny (model prog w) A (.call (.ref fI) ⟨.ref (h.objs.size + 1) :: rest, []⟩) (fun r s' => match r with | .ok (.ret v) => v = .none ∧ Q (.done (.ret (.ref (h.objs.size + 1)))) s' | .ok _ => False | .error e => E e s')
      ⟨(h.push (tupObj rest)).push (excObj C h.objs.size), g, d, t, os⟩) (hrest : rest.length ≤ sizeLine := by size_fits) :
    wpAny (model prog w) A (Builtin.«type.__call__» ⟨.ref C :: rest, []⟩) Q E ⟨h, g, d, t, os⟩ := by
  have hC0 := X _ _ hC
  repeat (first | with_reducible refine wpAny_loadPart_at hC0 ?_ | with_reducible refine wpAny_madeBy_exc hC0 ?_ | wp_step)
  refine codeAny_call_builtin_code (Code.quiet_builtin _ F.quiet) (wpAny_check_new_subT F T hC0 ?_)
  refine codeAny_exc_new_subT F T hC0 ?_ hrest
  show wpAny _ _ _ _ _ _
  have kp : ∀ b o, h.get? b = some o → ((h.push (tupObj rest)).push (excObj C h.objs.size)).get? b = some o := fun b o e => Heap.get?_push_of_some _ (Heap.get?_push_of_some _ e)
  have X1 := X.keeps kp
  have hC₁ := X1 _ _ hC
  have hget : ((h.push (tupObj rest)).push (excObj C h.objs.size)).get? (h.objs.size + 1) = some (excObj C h.objs.size) := by heap_get
  have hcC : (Value.ref C :: bm).contains (.ref C) = true := by simp
  have i1 := looks_findIn (M := model prog w) X1 hi
  have b1 := bind_fn (M := model prog w) X1 (.ref (h.objs.size + 1)) hf
  unfold isInstance
  repeat (first | with_reducible refine wpAny_loadPart_at hget ?_ | (with_reducible refine wpAny_isSubtype_exc hC₁ ?_; rw [hcC]) | wp_step)
  show wpAny _ _ (typeLookup (.ref C) _) _ _ _
  refine i1.at ?_
  refine wpAny_holding (wpAny_bind (b1.at (wpAny_bind (wpAny_call (codeAny_mono hq fun r s' z => ?_)))))
  rcases r with e | (v | _ | _ | _) <;> first | exact z | exact z.elim | skip
  obtain ⟨rfl, z⟩ := z
  exact wpAny_pure (wpAny_pure z)

theorem exc_call (F : ExcBaseFacts B newId initId bmB) (T : OwnTail h bmB bm) {rest : List Value} {fI : Addr} {R : Result → Shared → Prop} (X : K.In h)
    (hC : K.lookup C = some (excClassObj nm q C N bs bm hdct sn sub ab col dd k0 k1 k2 k3 k5 newId)) (hi : findIn K (.ref C) "__init__" = some (some (.ref fI))) (hf : typeIn K (.ref fI) = some (.type "function"))
    (hq : codeAny (model prog w) (A.under (.builtin "type.__call__" ⟨.ref C :: rest, []⟩)) (.call (.ref fI) ⟨.ref (h.objs.size + 1) :: rest, []⟩) (InitBack (h.objs.size + 1) R)
      ⟨(h.push (tupObj rest)).push (excObj C h.objs.size), g, d, t, os⟩) (hrest : rest.length ≤ sizeLine := by size_fits) :
    codeAny (model prog w) A (.call (.ref C) ⟨rest, []⟩) R ⟨h, g, d, t, os⟩ := by
  have hC0 := X _ _ hC
  have f1 := tc_lookup
  have f2 := tc_bind (.ref C)
  have hT : (⟨h, g, d, t, os⟩ : Shared).TypeIs (.ref C) "type" := ⟨_, hC0, rfl⟩
  refine codeAny_of_tree ?_
  show wpAny _ _ (callAny (.ref C) _) _ _ _
  repeat (any_goals (first | assumption | with_reducible refine wpAny_loadPart_at hC0 ?_ | wp_step))
  refine ⟨rfl, ?_⟩
  refine codeAny_call_builtin_at (Code.quiet_builtin _ (by decide +kernel)) entry_typeCall (wpAny_check_type_call_sub hC0 (exc_type_call (hrest := hrest) F T X hC hi hf (codeAny_mono hq fun r s' z => ?_)))
  rcases r with e | (v | _ | _ | _) <;> exact z
end

section
variable {prog : Program} {w : World} {A : Around} {E : Value → Shared → Prop} {s : Shared} {K : Frag} {C L : Addr} {h₀ : Heap} {m : Str → Option Value} {news : List (Addr × Obj)}
variable {nm q : Str} {N : Addr} {bs bm bmB : List Value} {hdct : Bool} {sn : List Str} {sub : List Value} {ab : Bool} {col : Option Bool} {dd : Option Addr} {k0 k1 k2 k3 k5 : Option Value} {B newId initId : String} {Q : Value → Shared → Prop}

end
end Mine
end

-- Exc2
section
theorem Mine.offExc2 : True := by
  w_top off
  trivial
open PySem PySem.W PyProof.Rows PySem.Spec PySem.Calls Builtin Builtin.ObjectAttr Builtin.Getset_descriptor Builtin.BaseException
set_option maxRecDepth 100000
namespace Mine

theorem gs_entry : entryFor table "getset_descriptor.__set__" = some Builtin.«getset_descriptor.__set__» := entryFor_of_tree (by kernel_rfl)
theorem gs_args (a b c : Value) : argsOk "getset_descriptor.__set__" ⟨[a, b, c], []⟩ := by unfold argsOk; kernel_rfl
theorem as_entry : entryFor table "BaseException.args#set" = some Builtin.«BaseException.args#set» := entryFor_of_tree (by kernel_rfl)
theorem args_owner : descrOwnerAndName "BaseException.args" = ("BaseException", "args") := by decide +kernel

/-- what a store into an exception of an own class asks of the class -/
structure ExcSet (K : Frag) (C : Addr) (cd : ClassData) : Prop where
  cls : clsIn K C = some cd
  refuse : ∀ self : Value, refuseLoop self "__setattr__" cd.mro = pure ()
  top : cd.mro.contains (.type "object") = true
  exc : cd.mro.contains (.type "BaseException") = true
  ne : cd.mro.isEmpty = false
  dict : cd.hasDict = true
  set : findIn K (.ref C) "__setattr__" = some (some (.builtin "object.__setattr__"))
  args : takerIn K C "args" = some (some (.builtin "BaseException.args"))

section
variable {prog : Program} {w : World} {A : Around} {R : Result → Shared → Prop} {E : Value → Shared → Prop} {s : Shared} {K : Frag} {x C L : Addr} {h₀ : Heap} {m : Str → Option Value} {news news' : List (Addr × Obj)} {cd : ClassData}

theorem exc_osa_open {ox : Obj} {od : Option Obj} {name : Str} {tk : Tok} {v : Value} {r : Option Value} (X : K.In s.heap) (I : InstAt s.heap x ox C od) (S : ExcSet K C cd) (ht : takerIn K C name = some r)
    (h : ∀ b, wpAny (model prog w) A.in1 (match r with | some a => setByDescriptor a (.ref x) v | none => storeInOwnDict (.ref x) (.ref C) (.str name tk) name v b)
      (fun fin s' => match fin with | .done f => R (.ok f) s' | .again c' => c'.quiet = true ∧ codeAny (model prog w) A c' R s') (fun e s' => R (.error e) s') s) :
    codeAny (model prog w) A (.call (.builtin "object.__setattr__") ⟨[.ref x, .str name tk, v], []⟩) R s := by
  have SF := PySem.F.store_object
  have sub : Looks (model prog w) s.heap (isInstance (.ref x) (.type "object")) true := I.type.andThen (looks_mroIn X (by unfold mroIn; rw [S.cls, Option.bind_some, if_neg (by rw [S.ne]; decide), S.top]))
  refine codeAny_call_builtin SF.slot.plain SF.entry (@check_slot (model prog w) _ _ s "object.__setattr__" "object" "__setattr__" (.ref x) [.str name tk, v] [] _ SF.kind SF.split sub (SF.args (.ref x) (.str name tk) v) ?_)
  obtain ⟨attr, ha, hr⟩ := Option.bind_eq_some_iff.mp ht
  have hm : Looks (model prog w) s.heap (mroOf (.ref C)) cd.mro := (looks_clsIn X S.cls).andThen .now
  have L3 : Looks (model prog w) s.heap (storeTaker? attr) r := by
    cases attr with
    | none => cases hr; exact .now
    | some a =>
      obtain ⟨b, hb, rfl⟩ := Option.map_eq_some_iff.mp hr
      refine (looks_takesIn X hb).andThen ?_
      cases b <;> exact .now
  rw [osa_eq, refuse_eq]
  refine wpAny_bind (wpAny_bind (I.type.here (wpAny_bind (hm.here ?_))))
  rw [S.refuse]
  refine wpAny_pure (wpAny_bind (I.type.here (wpAny_bind ((looks_findIn X ha).here (wpAny_bind (L3.here ?_))))))
  exact h _

/-- `self.args = t`, t an exact tuple -/
theorem exc_set_args {ox ox' : Obj} {od : Option Obj} {ty : Addr} {items : Array Value} {vs : Array Value} {a0 : Value} {Q : Unit → Shared → Prop} (F : Fr h₀ L s.heap m) (X₀ : K.In h₀) (N : News h₀ L s.heap news) (I : InstAt s.heap x ox C od) (S : ExcSet K C cd)
    (hd : ox.data = .fields vs) (h0 : vs[0]? = some a0) (ht : IsTup s.heap ty items) (e : Obj.mapFields (·.setIfInBounds 0 (.ref ty)) ox = ox') (U : Upd x ox ox' news news')
    (h : ∀ h', Fr h₀ L h' m → News h₀ L h' news' → Q () { s with heap := h', toks := s.toks + 1 }) :
    wpAny (model prog w) A (setAttr (.ref x) "args" (.ref ty)) Q E s := by
  obtain ⟨pre, post, rfl, rfl, p1, p2⟩ := U.split
  have X := X₀.keeps F.keep
  have hf : ox'.isFreed = false := by
    obtain ⟨c, dd, dt, sl⟩ := ox
    dsimp only at hd
    subst hd
    rw [← e]; rfl
  obtain ⟨U1, U2⟩ := news_upd (f := Obj.mapFields (·.setIfInBounds 0 (.ref ty))) F N p1 p2 e hf
  have hlt : 0 < vs.size := (Array.getElem?_eq_some_iff.mp h0).1
  refine set_plain X I S.set (exc_osa_open (s := { s with toks := s.toks + 1 }) X I S S.args fun _ => ?_)
  have hT5 : ∀ s' : Shared, s'.TypeIs (.builtin "BaseException.args") "getset_descriptor" := fun _ => PySem.F.typeOf_bexc_args
  refine wpAny_bind (wpAny_rule (wpAny_bind (wpAny_holding ?_)))
  refine wpAny_callSpecial?_slot (T := "getset_descriptor") (name := Str.ofString "__set__") (id := "getset_descriptor.__set__") (hT5 _) PySem.F.slot_gs_set ?_
  refine wpAny_call ?_
  refine codeAny_call_builtin PySem.F.slot_gs_set.plain gs_entry ?_
  refine PySem.F.slot_gs_set.check _ _ _ _ _ _ _ _ (hT5 _) (gs_args _ _ _) ?_
  unfold Builtin.«getset_descriptor.__set__» descrSet descrStoreThrough descrCheckInstance descrNameAndClass isInstance descrItself
  simp only [args_owner]
  have L0 := I.type (M := model prog w)
  have L1 : Looks (model prog w) s.heap (isSubtype (.ref C) (.type "BaseException")) true := looks_mroIn X (by unfold mroIn; rw [S.cls, Option.bind_some, if_neg (by rw [S.ne]; decide), S.exc])
  obtain ⟨hh, g, d, t, os⟩ := s
  dsimp only at L0 L1
  repeat lk
  refine ⟨Code.quiet_builtin _ (by decide +kernel), codeAny_builtin as_entry ?_⟩
  unfold Builtin.«BaseException.args#set» bexcPut
  refine wpAny_bind (call_tuple_tup ht ?_)
  refine wpAny_bind (wpAny_bind (wpAny_field I.at_ hd h0 (wpAny_bind (wpAny_setField I.at_ hd hlt ?_))))
  have fin := h _ U1 U2
  cases a0 <;> first | exact wpAny_letGo (wpAny_pure (wpAny_pure fin)) | exact wpAny_pure (wpAny_pure (wpAny_pure fin))

/-- the first attribute stored into an exception of an own class: its dict is made -/
theorem exc_set_first {vs : Array Value} {sl : Array (Option Value)} {name : Str} {v : Value} {Q : Unit → Shared → Prop} {news' : Addr → List (Addr × Obj)} (F : Fr h₀ L s.heap m) (X₀ : K.In h₀) (N : News h₀ L s.heap news) (S : ExcSet K C cd)
    (ht : takerIn K C name = some none)
    (U : ∀ dx, Upd x ⟨.ref C, none, .fields vs, sl⟩ ⟨.ref C, some dx, .fields vs, sl⟩ news (news' dx))
    (h : ∀ dx h', Fr h₀ L h' m → News h₀ L h' ((dx, dictOf [⟨PyData.keyHash w.params name, .str name (s.toks + 1), v⟩] 1) :: news' dx) → (∀ p ∈ news, p.1 < dx) → Q () { s with heap := h', toks := s.toks + 2 }) :
    wpAny (model prog w) A (setAttr (.ref x) name v) Q E s := by
  have X := X₀.keeps F.keep
  obtain ⟨hh, g, d, t, os⟩ := s
  dsimp only at F N X h
  obtain ⟨pre, post, rfl, e2, p1, p2⟩ := (U hh.objs.size).split
  have hx0 : hh.get? x = some ⟨.ref C, none, .fields vs, sl⟩ := (N (x, _) (by simp)).1
  have hlt : ∀ p ∈ pre ++ (x, (⟨.ref C, none, .fields vs, sl⟩ : Obj)) :: post, p.1 < hh.objs.size := fun p hp => Heap.lt_size (N p hp).1
  have hxn : hh.objs.size ≠ x := (Nat.ne_of_lt (Heap.lt_size hx0)).symm
  have I : InstAt hh x ⟨.ref C, none, .fields vs, sl⟩ C none := ⟨hx0, rfl, rfl, trivial⟩
  have F1 := F.push emptyDict
  have N1 : News h₀ L (hh.push emptyDict) (((hh.objs.size, emptyDict) :: pre) ++ (x, ⟨.ref C, none, .fields vs, sl⟩) :: post) := N.push F emptyDict
  obtain ⟨F2, N2⟩ := news_upd (f := fun o => { o with dict := some hh.objs.size }) (o' := ⟨.ref C, some hh.objs.size, .fields vs, sl⟩) F1 N1
    (fun p hp => by rcases List.mem_cons.mp hp with rfl | hp; exact hxn; exact p1 p hp) p2 rfl rfl
  have N2' : News h₀ L _ ([] ++ (hh.objs.size, emptyDict) :: (pre ++ (x, ⟨.ref C, some hh.objs.size, .fields vs, sl⟩) :: post)) := N2
  obtain ⟨F3, N3⟩ := news_upd (f := Obj.putName name (PyData.keyHash w.params name) (.str name (t + 1)) v) (o' := dictOf [⟨PyData.keyHash w.params name, .str name (t + 1), v⟩] 1) F2 N2'
    (fun p hp => nomatch hp) (fun p hp => by
      rcases List.mem_append.mp hp with hp | hp
      · exact Nat.ne_of_lt (hlt p (by simp [hp]))
      · rcases List.mem_cons.mp hp with rfl | hp
        · exact hxn.symm
        · exact Nat.ne_of_lt (hlt p (by simp [hp]))) (by rfl) rfl
  have hd2 := (N2 (hh.objs.size, emptyDict) (by simp)).1
  have hd3 := (N3 (hh.objs.size, dictOf [⟨PyData.keyHash w.params name, .str name (t + 1), v⟩] 1) (by simp)).1
  have fin := h hh.objs.size _ F3 (by rw [e2]; exact N3) hlt
  refine set_plain X I S.set (exc_osa_open (s := ⟨hh, g, d, t + 1, os⟩) X I S ht fun _ => ?_)
  refine wpAny_bind (wpAny_pure (wpAny_bind ?_))
  show wpAny _ _ (instanceDict x true) _ _ _
  unfold instanceDict
  refine wpAny_bind (wpAny_loadPart hx0 ?_)
  dsimp only
  refine wpAny_bind ((looks_clsIn X S.cls).at ?_)
  rw [S.dict]
  simp only [Bool.not_true, Bool.false_eq_true, if_false]
  refine wpAny_bind (wpAny_alloc (wpAny_bind (wpAny_update (Heap.get?_push_of_some _ hx0) ?_)))
  refine wpAny_pure ?_
  show wpAny _ _ (storeInDict hh.objs.size (Value.str name t) name v) _ _ _
  refine wpAny_bind (wpAny_pure (wpAny_bind ?_))
  unfold nsSet
  refine wpAny_bind (wpAny_bind (wpAny_askSetting (wpAny_pure (wpAny_bind (wpAny_mkText (wpAny_bind (wpAny_loadPart hd2 ?_)))))))
  refine wpAny_updatePart hd2 ?_
  refine wpAny_bind (wpAny_lookBehind hd3 (pastItsLine_dict (by rw [List.size_toArray, sizeLine_eq]; show 1 ≤ _; omega)) ?_)
  exact wpAny_pure fin
end
end Mine
end

-- Exc3
section
theorem Mine.offExc3 : True := by
  w_top off
  trivial
open PySem PySem.W PyProof.Rows PySem.Spec PySem.Calls Builtin Builtin.ObjectAttr Builtin.Getset_descriptor Builtin.BaseException
set_option maxRecDepth 100000
namespace Mine
theorem ga_kind : builtinKind "BaseException.__getattribute__" = some .slot := by decide +kernel
theorem ga_split : splitId "BaseException.__getattribute__" = some ("BaseException", "__getattribute__") := by decide +kernel

structure ExcGet (K : Frag) (C : Addr) (cd : ClassData) : Prop where
  cls : clsIn K C = some cd
  exc : cd.mro.contains (.type "BaseException") = true
  ne : cd.mro.isEmpty = false
  ga : findIn K (.ref C) "__getattribute__" = some (some (.builtin "BaseException.__getattribute__"))
  hook : findIn K (.ref C) "__getattr__" = some none

section
variable {prog : Program} {w : World} {A : Around} {R : Result → Shared → Prop} {E : Value → Shared → Prop} {s : Shared} {K : Frag} {x C L : Addr} {h₀ : Heap} {m : Str → Option Value} {cd : ClassData} {ox : Obj} {od : Option Obj} {name : Str}

theorem exc_ga_call {tk : Tok} (X : K.In s.heap) (I : InstAt s.heap x ox C od) (S : ExcGet K C cd)
    (h : wpAny (model prog w) A.in1 (Builtin.«object.__getattribute__» ⟨[.ref x, .str name tk], []⟩) (fun fin s' => match fin with | .done f => R (.ok f) s' | .again c' => c'.quiet = true ∧ codeAny (model prog w) A c' R s') (fun e s' => R (.error e) s') s) :
    codeAny (model prog w) A (.call (.builtin "BaseException.__getattribute__") ⟨[.ref x, .str name tk], []⟩) R s := by
  have sub : Looks (model prog w) s.heap (isInstance (.ref x) (.type "BaseException")) true := I.type.andThen (looks_mroIn X (by unfold mroIn; rw [S.cls, Option.bind_some, if_neg (by rw [S.ne]; decide), S.exc]))
  exact codeAny_call_builtin PySem.F.excAttr_ValueError.ga.plain PySem.F.entry_bexc_ga (@check_slot (model prog w) _ _ s "BaseException.__getattribute__" "BaseException" "__getattribute__" (.ref x) [.str name tk] [] _ ga_kind ga_split sub (PySem.F.args_bexc_ga (.ref x) (.str name tk)) h)

theorem exc_get_open {expr : Bool} {Q : Value → Shared → Prop} (X : K.In s.heap) (I : InstAt s.heap x ox C od) (S : ExcGet K C cd)
    (h : codeAny (model prog w) A (.call (.builtin "BaseException.__getattribute__") ⟨[.ref x, .str name s.toks], []⟩)
      (fun r s' => match r with | .ok (.ret v) => wpAny (model prog w) A (handedOut v) Q E s' | _ => False) { s with toks := s.toks + 1 }) :
    wpAny (model prog w) A (getAttr (.ref x) name expr) Q E s := by
  obtain ⟨hh, g, d, t, os⟩ := s
  have L0 := I.type (M := model prog w)
  have L1 := looks_findIn (M := model prog w) X S.ga
  have L2 := looks_findIn (M := model prog w) X S.hook
  unfold getAttr getAttrBy
  refine wpAny_bind (wpAny_mkText (wpAny_holding (wpAny_bind (L0.at (wpAny_bind (L1.at ?_))))))
  have hne : (onTheHeap (Value.ref C) && Value.builtin "BaseException.__getattribute__" == Value.builtin "object.__getattribute__") = false := by
    rw [show (Value.builtin "BaseException.__getattribute__" == Value.builtin "object.__getattribute__") = false by decide +kernel]; rfl
  dsimp only
  rw [hne, if_neg Bool.false_ne_true]
  unfold getAttrByItsOwn
  refine wpAny_bind ?_
  show wpAny _ _ (typeLookup (.ref C) "__getattr__") _ _ _
  refine L2.at ?_
  have hx0 : (expr && onTheHeap (Value.builtin "BaseException.__getattribute__")) = false := by cases expr <;> rfl
  unfold callGetattribute boundAndCalled
  rw [hx0, if_neg Bool.false_ne_true]
  refine wpAny_bind (wpAny_attempt (wpAny_holding ?_))
  rw [PySem.F.excAttr_ValueError.ga.bind]
  refine wpAny_bind (wpAny_pure (wpAny_call (codeAny_mono h fun r s' z => ?_)))
  rcases r with e | (v | _ | _ | _) <;> first | exact z.elim | exact z

/-- an attribute that stands in the instance's own dict -/
theorem exc_get_value {expr : Bool} {v : Value} {Q : Value → Shared → Prop} (X : K.In s.heap) (I : InstAt s.heap x ox C od) (S : ExcGet K C cd) (hf : findObj K C od name = some (.value v)) (hh : handedIn v = true)
    (h : Q v { s with toks := s.toks + 1 }) : wpAny (model prog w) A (getAttr (.ref x) name expr) Q E s := by
  refine exc_get_open X I S (exc_ga_call (s := { s with toks := s.toks + 1 }) X I S ?_)
  obtain ⟨hh', g, d, t, os⟩ := s
  have L0 := I.type (M := model prog w)
  have L1 := looks_find (M := model prog w) X I hf
  unfold Builtin.«object.__getattribute__»
  refine wpAny_bind (wpAny_pure (wpAny_bind (wpAny_pure (wpAny_bind (L0.at (wpAny_bind (L1.at ?_)))))))
  refine wpAny_pure ?_
  show wpAny _ _ (handedOut v) _ _ _
  rw [handedOut_of hh]; exact wpAny_pure h

end
end Mine
end

-- ExcG
section
theorem Mine.offExcG : True := by
  w_top off
  trivial
open PySem PySem.W PyProof.Rows PySem.Spec PySem.Calls
set_option linter.unusedVariables false
namespace Mine
abbrev Kp (h h' : Heap) : Prop := ∀ b o, h.get? b = some o → h'.get? b = some o
abbrev bmExc : List Value := [.type "Exception", .type "BaseException", .type "object"]
theorem refuse_exc1 (a : Addr) (self : Value) : refuseLoop self "__setattr__" (.ref a :: bmExc) = pure () := by rw [refuseLoop_ref]; exact PySem.F.store_Exception.passes self
theorem refuse_exc2 (a b : Addr) (self : Value) : refuseLoop self "__setattr__" (.ref a :: .ref b :: bmExc) = pure () := by rw [refuseLoop_ref, refuse_exc1]
theorem inst_exc {h₀ h : Heap} {L x C : Addr} {news : List (Addr × Obj)} {vs : Array Value} {sl : Array (Option Value)} (N : News h₀ L h news) (m : (x, (⟨.ref C, none, .fields vs, sl⟩ : Obj)) ∈ news) : InstAt h x ⟨.ref C, none, .fields vs, sl⟩ C none := ⟨(N _ m).1, rfl, rfl, trivial⟩
theorem tup_news {h₀ h : Heap} {L x : Addr} {news : List (Addr × Obj)} {vs : Array Value} {n : Nat} (N : News h₀ L h news) (m : (x, (⟨.type "tuple", none, .seq vs n, #[]⟩ : Obj)) ∈ news) : IsTup h x vs := ⟨_, (N _ m).1, rfl, n, rfl⟩

/-- the heap ht says nothing but what h₀ and the ledger tw say -/
def Cov (ht h₀ : Heap) (tw : List (Addr × Obj)) : Prop := ∀ b o, ht.get? b = some o → h₀.get? b = some o ∨ (b, o) ∈ tw
theorem Cov.kp {ht h₀ g h : Heap} {L : Addr} {tw news : List (Addr × Obj)} (C : Cov ht h₀ tw) (k : Kp h₀ h) (N : News g L h news) (hs : ∀ p ∈ tw, p ∈ news) : Kp ht h := fun b o e => (C b o e).elim (k b o) fun hm => (N _ (hs _ hm)).1
def NeAll (x : Addr) (tw : List (Addr × Obj)) : Prop := ∀ p ∈ tw, p.1 ≠ x
theorem neAll_tail {e : Addr × Obj} {tw : List (Addr × Obj)} {tx x : Addr} (h : ∀ p ∈ e :: tw, p.1 < tx) (h2 : tx < x) : NeAll x tw := fun p hp => Nat.ne_of_lt (Nat.lt_trans (h p (.tail _ hp)) h2)
theorem neAll_lt {d : Nat} : ∀ {tw : List (Addr × Obj)}, AllLt d tw → NeAll d tw
  | [], _ => fun p hp => nomatch hp
  | q :: r, ⟨h1, h2⟩ => fun p hp => by
    rcases List.mem_cons.mp hp with rfl | hp
    · exact Nat.ne_of_lt h1
    · exact neAll_lt h2 p hp
theorem own_get {ht : Heap} {own : List (Addr × Obj)} {a : Addr} {o : Obj} (h : ∀ p ∈ own, ht.get? p.1 = some p.2) (hm : (a, o) ∈ own) : ht.get? a = some o := h _ hm
theorem own_mid {p e : Addr × Obj} {own tw : List (Addr × Obj)} (h : p ∈ e :: (own ++ tw)) : p ∈ own ++ e :: tw := List.perm_middle.mem_iff.mpr h
theorem neNil {x : Addr} : NeAll x [] := fun p hp => nomatch hp
theorem neCons {x a : Addr} {o : Obj} {r : List (Addr × Obj)} (h : @Ne Nat a x) (h2 : NeAll x r) : NeAll x ((a, o) :: r) := fun p hp => by
  rcases List.mem_cons.mp hp with rfl | hp
  · exact h
  · exact h2 p hp
def OwnNe (own tw : List (Addr × Obj)) : Prop := ∀ q ∈ own, NeAll q.1 tw
theorem ownNil {tw : List (Addr × Obj)} : OwnNe [] tw := fun p hp => nomatch hp
theorem ownCons {a : Addr} {o : Obj} {r tw : List (Addr × Obj)} (h : NeAll a tw) (h2 : OwnNe r tw) : OwnNe ((a, o) :: r) tw := fun p hp => by
  rcases List.mem_cons.mp hp with rfl | hp
  · exact h
  · exact h2 p hp
theorem NeAll.out {x : Addr} {tw : List (Addr × Obj)} (h : NeAll x tw) : ∀ p ∈ tw, p.1 ≠ x := h
local macro_rules | `(tactic| k_all) => `(tactic| exact NeAll.out (by assumption))
/-- what a truth test of `v` gives -/
def Truth (h : Heap) (v : Value) (b : Bool) : Prop := ∀ (prog : Program) (w : World) (A : Around) (Q : Bool → Shared → Prop) (E : Value → Shared → Prop) (s : Shared), A.units < 100 → Kp h s.heap → (∀ tk, Q b { s with toks := tk }) → wpAny (model prog w) A (truthy v) Q E s
abbrev excObjD (C ty dx : Addr) : Obj := { cls := .ref C, dict := some dx, data := .fields #[.ref ty, .none, .none, .none, .bool false, .none] }
section
variable {prog : Program} {w : World} {A : Around} {E : Value → Shared → Prop} {s : Shared} {K : Frag} {x C L tx ty : Addr} {h₀ : Heap} {m : Str → Option Value} {news : List (Addr × Obj)} {cd : ClassData} {items : Array Value} {Q : Unit → Shared → Prop}
theorem exc_args1 {news' : List (Addr × Obj)} (F : Fr h₀ L s.heap m) (X₀ : K.In h₀) (N : News h₀ L s.heap news) (hm : (x, excObj C tx) ∈ news) (S : ExcSet K C cd) (ht : IsTup s.heap ty items) (U : Upd x (excObj C tx) (excObj C ty) news news')
    (h : ∀ h', Fr h₀ L h' m → News h₀ L h' news' → Q () { s with heap := h', toks := s.toks + 1 }) : wpAny (model prog w) A (setAttr (.ref x) "args" (.ref ty)) Q E s :=
  exc_set_args F X₀ N (inst_exc N hm) S rfl rfl ht rfl U h
theorem exc_first1 {name : Str} {v : Value} {news' : Addr → List (Addr × Obj)} (F : Fr h₀ L s.heap m) (X₀ : K.In h₀) (N : News h₀ L s.heap news) (S : ExcSet K C cd) (ht : takerIn K C name = some none) (U : ∀ dx, Upd x (excObj C ty) (excObjD C ty dx) news (news' dx))
    (h : ∀ dx h', Fr h₀ L h' m → News h₀ L h' ((dx, dictOf [⟨PyData.keyHash w.params name, .str name (s.toks + 1), v⟩] 1) :: news' dx) → (∀ p ∈ news, p.1 < dx) → Q () { s with heap := h', toks := s.toks + 2 }) :
    wpAny (model prog w) A (setAttr (.ref x) name v) Q E s := exc_set_first F X₀ N S ht U h
end
/-- a call of an own exception class that has no __init__ of its own -/
theorem exc_make0 {prog : Program} {w : World} {A : Around} {E : Value → Shared → Prop} {s : Shared} {K : Frag} {C L : Addr} {h₀ : Heap} {m : Str → Option Value} {news : List (Addr × Obj)} {nm q : Str} {N : Addr} {bs bm bmB : List Value} {hdct : Bool} {sn : List Str} {sub : List Value} {ab : Bool} {col : Option Bool} {dd : Option Addr} {k0 k1 k2 k3 k5 : Option Value} {B newId initId : String} {Q : Value → Shared → Prop}
    (Fb : ExcBaseFacts B newId initId bmB) {rest : List Value} (F : Fr h₀ L s.heap m) (X₀ : K.In h₀) (Nw : News h₀ L s.heap news) (T : OwnTail h₀ bmB bm)
    (hC : K.lookup C = some (excClassObj nm q C N bs bm hdct sn sub ab col dd k0 k1 k2 k3 k5 newId)) (hn : nsOkIn K N = true) (hni : nsIn K N "__init__" = some none) (hrest : rest.length ≤ sizeLine)
    (h : ∀ x tx h', Fr h₀ L h' m → News h₀ L h' ((x, excObj C tx) :: (tx, tupObj rest) :: news) → (∀ p ∈ news, @Ne Nat p.1 x ∧ @Ne Nat p.1 tx) → @Ne Nat tx x → Q (.ref x) { s with heap := h' }) :
    wpAny (model prog w) A (call (.ref C) rest) Q E s := by
  obtain ⟨hh, g, d, t, os⟩ := s
  have X := X₀.keeps F.keep
  refine wpAny_call_exc_subT Fb (T.keeps F.keep) (X _ _ hC) (.of_isNs (isNs_of_in X hn)) (nsMap_none_of_in X hn hni) (fun h' e M => ?_) hrest
  obtain ⟨k, hnew, t0, e1, e2, e3⟩ := M
  have old : ∀ b, hh.get? b = none → h₀.get? b = none := fun b hb => by
    cases q : h₀.get? b with
    | none => rfl
    | some o => have := F.keep _ _ q; rw [hb] at this; cases this
  obtain ⟨oL, es, ep, hL, r⟩ := F.ns
  have ne : ∀ b, hh.get? b = none → b ≠ L := fun b hb z => by rw [z, hL] at hb; cases hb
  refine h e t0 h' ⟨⟨oL, es, ep, k _ _ hL, r⟩, fun b o q => k _ _ (F.keep _ _ q), F.above⟩ (fun p hp => ?_) (fun p hp => ⟨(fun z => by have := (Nw p hp).1; rw [z, hnew] at this; cases this), (fun z => by have := (Nw p hp).1; rw [z, e2] at this; cases this)⟩) (fun z => by rw [z, e1] at e3; cases e3)
  rcases List.mem_cons.mp hp with rfl | hp
  · exact ⟨e1, ne _ hnew, old _ hnew⟩
  · rcases List.mem_cons.mp hp with rfl | hp
    · exact ⟨e3, ne _ e2, old _ e2⟩
    · exact ⟨k _ _ (Nw p hp).1, (Nw p hp).2⟩
theorem fr_kp {h₀ h h' : Heap} {L : Addr} {m : Str → Option Value} (F : Fr h₀ L h m) (k : Kp h h') : Fr h₀ L h' m := by
  obtain ⟨oL, es, ep, hL, r⟩ := F.ns
  exact ⟨⟨oL, es, ep, k _ _ hL, r⟩, fun b o e => k _ _ (F.keep b o e), F.above⟩
theorem news_kp {h₀ h h' : Heap} {L : Addr} {news : List (Addr × Obj)} (N : News h₀ L h news) (k : Kp h h') : News h₀ L h' news := fun p hp => ⟨k _ _ (N p hp).1, (N p hp).2⟩
end Mine
end

-- K10
section
theorem Mine.offK10 : True := by
  w_top off
  trivial
open PySem PySem.W PyProof.Rows PySem.Spec PySem.Calls
set_option linter.unusedVariables false
namespace Mine
open Mine10
noncomputable abbrev loose10 : List Str := looseW hd10.view_39 [Str.ofString "IncompleteRead"] ++ List.map (fun x => x.name) (recsOf hd10.view_39) ++ List.map (fun x => x.fst) (litsOf hd10.view_39) ++ List.map (fun x => x.name) (clssOf hd10.view_39 (looseW hd10.view_39 [Str.ofString "IncompleteRead"]))
theorem tail31 (P : Params) : tailIn (hd10.heap_39 P) bmExc (.ref 31 :: bmExc) = true := by kernel_rfl
theorem tailB (P : Params) : tailIn (hd10.heap_39 P) bmExc bmExc = true := by kernel_rfl
noncomputable abbrev cdOf (P : Params) (C : Addr) : ClassData := (clsIn (hd10.heap_39 P) C).getD default
theorem set31 (P : Params) : ExcSet (hd10.heap_39 P) 31 (cdOf P 31) := ⟨by kernel_rfl, fun self => refuse_exc1 31 self, by kernel_rfl, by kernel_rfl, by kernel_rfl, by kernel_rfl, by kernel_rfl, by kernel_rfl⟩
theorem get31 (P : Params) : ExcGet (hd10.heap_39 P) 31 (cdOf P 31) := ⟨by kernel_rfl, by kernel_rfl, by kernel_rfl, by kernel_rfl, by kernel_rfl⟩
theorem ns30 (P : Params) : nsOkIn (hd10.heap_39 P) 30 = true := by kernel_rfl
theorem init30 (P : Params) : nsIn (hd10.heap_39 P) 30 "__init__" = some none := by kernel_rfl
theorem takerRl (P : Params) : takerIn (hd10.heap_39 P) 31 "readline" = some none := by kernel_rfl
end Mine
end

-- Call10
section
theorem Mine.offCall10 : True := by
  w_top off
  trivial
open PySem PySem.W PyProof.Rows PySem.Calls
set_option linter.unusedVariables false
namespace Mine
section
variable {prog : Program} {w : World} {A₀ A : Around} {s : Shared} {base h₀ : Heap} {outer : List Env} {L : Addr} {m : Str → Option Value} {env : Env} {news : List (Addr × Obj)}
  {R : Result → Shared → Prop} {name qual : Str} {params : Arguments} {body : List Stmt} {scope : Scope} {cl : List (Str × Addr)} {dV kV doc pm cdv ct : Value} {an : Option Addr} {fo : Obj} {f : Addr} {args : Args} {binds : List (Str × Value)}
/-- what the callee's ground keeps: all but the ledger -/
abbrev Gk (s : Shared) (news : List (Addr × Obj)) (g : Heap) : Prop := ∀ b o, s.heap.get? b = some o → b ∉ news.map (·.1) → g.get? b = some o
theorem callK_plain (B : Below A₀ base outer h₀) (F : Fr h₀ L s.heap m) (N : News h₀ L s.heap news) (hlim : h₀.NoLimit) (hA : A.frames = some (env :: outer)) (hf : env.frame = some L) (hke : env.scope.kind = .function)
    (ho : s.heap.get? f = some fo) (hd : fo.data = .func (fnX name qual params body scope cl dV kV doc pm an cdv ct)) (hcd : s.heap.CodeRec cdv qual) (hroom : A.depth < recursionLimit)
    (hbind : BindsTo s (fnX name qual params body scope cl dV kV doc pm an cdv ct) args binds) (hloc : ∀ y ∈ binds, scope.names.lookup y.1 = some .local)
    (h : ∀ g L' h₁, Gk s news g → Fr h₀ L g m → Fr g L' h₁ (fun y => binds.reverse.lookup y) → News g L' h₁ news → Below A base (env :: outer) g → h₀.StaysIn g → (∀ p ∈ news, p.1 < L') →
      wpAny (model prog w) (A.deeper (envX qual scope L' f cdv cl)) (execs body (envX qual scope L' f cdv cl))
        (fun fl s' => LeaveK h₀ L m g R (match fl with | .ret v => v | _ => .none) s')
        (fun e s' => wpAny (model prog w) (A.deeper (envX qual scope L' f cdv cl)) (leaving (envX qual scope L' f cdv cl) e) (fun _ s'' => R (.error e) s'') (fun e' s'' => R (.error e') s'') s')
        { s with heap := h₁, toks := s.toks + binds.length })
    (hcell : ∀ x ∈ scope.names, x.2 ≠ .cell) (hco : scope.isCoroutine = false) (hgen : scope.isGenerator = false) (hk : scope.kind = .function) : codeAny (model prog w) A (.call (.ref f) args) R s := by
  obtain ⟨FG, BG, st, lv⟩ := groundX (R := R) B F N hA hf hke
  refine codeAny_call_def (fd := fnX name qual params body scope cl dV kV doc pm an cdv ct) (body := body) (binds := binds) hroom ho hd (hlim.keeps F.keep) hcd rfl hbind hcell hloc (fun h₁ hns up => ?_) hco hgen hk
  have F1 : Fr (hideAll s.heap (news.map (·.1))) s.heap.objs.size h₁ (fun y => binds.reverse.lookup y) := ⟨hns, fun b o e => up b o (of_hideAll _ e), Nat.le_of_eq (hideAll_size _ _)⟩
  have N1 : News (hideAll s.heap (news.map (·.1))) s.heap.objs.size h₁ news := fun p hp => ⟨up _ _ (N p hp).1, Nat.ne_of_lt (Heap.lt_size (N p hp).1), hideAll_none _ (List.mem_map_of_mem hp)⟩
  exact wpAny_mono (h _ _ h₁ (fun b o e q => hideAll_get _ e q) FG F1 N1 BG st fun p hp => Heap.lt_size (N p hp).1) (fun fl s' z => lv _ _ z) fun _ _ z => z
theorem callK_cells (B : Below A₀ base outer h₀) (F : Fr h₀ L s.heap m) (N : News h₀ L s.heap news) (hlim : h₀.NoLimit) (hA : A.frames = some (env :: outer)) (hf : env.frame = some L) (hke : env.scope.kind = .function)
    (ho : s.heap.get? f = some fo) (hd : fo.data = .func (fnX name qual params body scope [] dV kV doc pm an cdv ct)) (hcd : s.heap.CodeRec cdv qual) (hroom : A.depth < recursionLimit)
    (hbind : BindsTo s (fnX name qual params body scope [] dV kV doc pm an cdv ct) args binds)
    (hkind : ∀ n, ∀ x ∈ binds, scope.names.lookup x.1 = some .local ∨ (scope.names.lookup x.1 = some .cell ∧ ((cellsFrom n scope.names []).lookup x.1).isSome = true))
    (hnd : ((cellsFrom 0 scope.names []).map (·.1)).Nodup)
    (h : ∀ g L' h₁ tk cells, Gk s news g → Fr h₀ L g m → Fr g L' h₁ (bindL (envOfC qual scope L' f cdv).kindOf binds fun _ => none) → News g L' h₁ (cells ++ news) →
      CellsAre (bindC (envOfC qual scope L' f cdv).kindOf binds fun _ => none) (cellsFrom (L' + 1) scope.names []) cells → Below A base (env :: outer) g → h₀.StaysIn g → (∀ p ∈ news, p.1 < L') →
      wpAny (model prog w) (A.deeper (envOfC qual scope L' f cdv)) (execs body (envOfC qual scope L' f cdv))
        (fun fl s' => LeaveK h₀ L m g R (match fl with | .ret v => v | _ => .none) s')
        (fun e s' => wpAny (model prog w) (A.deeper (envOfC qual scope L' f cdv)) (leaving (envOfC qual scope L' f cdv) e) (fun _ s'' => R (.error e) s'') (fun e' s'' => R (.error e') s'') s')
        { s with heap := h₁, toks := tk })
    (hco : scope.isCoroutine = false) (hgen : scope.isGenerator = false) (hk : scope.kind = .function) : codeAny (model prog w) A (.call (.ref f) args) R s := by
  obtain ⟨FG, BG, st, lv⟩ := groundX (R := R) B F N hA hf hke
  refine codeAny_call_function hroom ho hd hco hgen rfl hcd (hbind _ _ _ _ (wpAny_newFunctionEnv_cells hk (hkind _) fun env' he s' x => ?_))
  subst he
  have up := x.toInCall.keep
  refine ⟨(hlim.keeps F.keep).keeps up, codeAny_func ?_⟩
  obtain ⟨h₁, tk, rfl, _⟩ := x.done
  obtain ⟨cells, NC, Y⟩ := Cl.news (h₀ := s.heap) (Nat.le_refl _) fun n c hm => ⟨x.cell n c (lookup_of_mem_nodup (cellsFrom_names scope.names 0 (s.heap.objs.size + 1) [] [] rfl ▸ hnd) hm), x.above n c hm⟩
  have F1 : Fr (hideAll s.heap (news.map (·.1))) s.heap.objs.size h₁ (bindL (envOfC qual scope s.heap.objs.size f cdv).kindOf binds fun _ => none) := ⟨x.toInCall.ns, fun b o e => up b o (of_hideAll _ e), Nat.le_of_eq (hideAll_size _ _)⟩
  refine wpAny_mono (h _ _ h₁ tk cells (fun b o e q => hideAll_get _ e q) FG F1 (fun p hp => ?_) Y BG st fun p hp => Heap.lt_size (N p hp).1) (fun fl s' z => lv _ _ z) fun _ _ z => z
  rcases List.mem_append.mp hp with hp | hp
  · refine ⟨(NC p hp).1, (NC p hp).2.1, ?_⟩
    cases q : (hideAll s.heap (news.map (·.1))).get? p.1 with
    | none => rfl
    | some o => have z := of_hideAll _ q; rw [(NC p hp).2.2] at z; cases z
  · exact ⟨up _ _ (N p hp).1, Nat.ne_of_lt (Heap.lt_size (N p hp).1), hideAll_none _ (List.mem_map_of_mem hp)⟩
end
section
variable {prog : Program} {w : World} {A A₀ : Around} {s : Shared} {K : Frag} {L : Addr} {h₀ base : Heap} {m mg mb : Str → Option Value} {news : List (Addr × Obj)} {p : Program} {loose : List Str} {mean : ExcName → Option Value}
  {env : Env} {outer : List Env} {R : Result → Shared → Prop} {name qual : Str} {params : Arguments} {body : List Stmt} {scope : Scope} {dV kV doc pm cdv ct oc : Value} {an od : Option Addr} {osl : Array (Option Value)} {f : Addr} {args : Args} {binds : List (Str × Value)}
theorem code_keep (B : Below A₀ base outer h₀) (F : Fr h₀ L s.heap m) (X₀ : K.In h₀) (N : News h₀ L s.heap news) (T : Top p loose mean mg mb h₀) (hA : A.frames = some (env :: outer)) (hf : env.frame = some L) (hke : env.scope.kind = .function)
    (ho : K.lookup f = some ⟨oc, od, .func (fnOf name qual params body scope dV kV doc pm an cdv ct), osl⟩) (hcd : codeIn K cdv qual = true) (hroom : A.depth < recursionLimit)
    (hbind : BindsTo s (fnOf name qual params body scope dV kV doc pm an cdv ct) args binds) (hloc : ∀ y ∈ binds, scope.names.lookup y.1 = some .local)
    (h : ∀ g L' h₁, Gk s news g → Fr h₀ L g m → Fr g L' h₁ (fun y => binds.reverse.lookup y) → News g L' h₁ news → Below A base (env :: outer) g → K.In g → Top p loose mean mg mb g → (∀ p ∈ news, p.1 < L') →
      wpAny (model prog w) (A.deeper (envOf qual scope L' f cdv)) (execs body (envOf qual scope L' f cdv))
        (fun fl s' => LeaveK h₀ L m g R (match fl with | .ret v => v | _ => .none) s')
        (fun e s' => wpAny (model prog w) (A.deeper (envOf qual scope L' f cdv)) (leaving (envOf qual scope L' f cdv) e) (fun _ s'' => R (.error e) s'') (fun e' s'' => R (.error e') s'') s')
        { s with heap := h₁, toks := s.toks + binds.length })
    (hco : scope.isCoroutine = false) (hgen : scope.isGenerator = false) (hk : scope.kind = .function) (hcell : ∀ x ∈ scope.names, x.2 ≠ .cell) : codeAny (model prog w) A (.call (.ref f) args) R s :=
  callK_plain (cl := []) B F N T.nolimit hA hf hke ((X₀.keeps F.keep) _ _ ho) rfl (codeRec_of (X₀.keeps F.keep) hcd) hroom hbind hloc (fun g L' h₁ gk FG F' N' B' st l => h g L' h₁ gk FG F' N' B' (X₀.keeps st) (T.keeps st) l) hcell hco hgen hk
theorem code_keepC (B : Below A₀ base outer h₀) (F : Fr h₀ L s.heap m) (X₀ : K.In h₀) (N : News h₀ L s.heap news) (T : Top p loose mean mg mb h₀) (hA : A.frames = some (env :: outer)) (hf : env.frame = some L) (hke : env.scope.kind = .function)
    (ho : K.lookup f = some ⟨oc, od, .func (fnOf name qual params body scope dV kV doc pm an cdv ct), osl⟩) (hcd : codeIn K cdv qual = true) (hroom : A.depth < recursionLimit)
    (hbind : BindsTo s (fnOf name qual params body scope dV kV doc pm an cdv ct) args binds) (hkind : (binds.all fun y => scope.names.lookup y.1 == some .local || scope.names.lookup y.1 == some .cell) = true)
    (hnd : ((cellsFrom 0 scope.names []).map (·.1)).Nodup)
    (h : ∀ g L' h₁ tk cells, Gk s news g → Fr h₀ L g m → Fr g L' h₁ (bindL (envOfC qual scope L' f cdv).kindOf binds fun _ => none) → News g L' h₁ (cells ++ news) →
      CellsAre (bindC (envOfC qual scope L' f cdv).kindOf binds fun _ => none) (cellsFrom (L' + 1) scope.names []) cells → Below A base (env :: outer) g → K.In g → Top p loose mean mg mb g → (∀ p ∈ news, p.1 < L') →
      wpAny (model prog w) (A.deeper (envOfC qual scope L' f cdv)) (execs body (envOfC qual scope L' f cdv))
        (fun fl s' => LeaveK h₀ L m g R (match fl with | .ret v => v | _ => .none) s')
        (fun e s' => wpAny (model prog w) (A.deeper (envOfC qual scope L' f cdv)) (leaving (envOfC qual scope L' f cdv) e) (fun _ s'' => R (.error e) s'') (fun e' s'' => R (.error e') s'') s')
        { s with heap := h₁, toks := tk })
    (hco : scope.isCoroutine = false) (hgen : scope.isGenerator = false) (hk : scope.kind = .function) : codeAny (model prog w) A (.call (.ref f) args) R s :=
  callK_cells B F N T.nolimit hA hf hke ((X₀.keeps F.keep) _ _ ho) rfl (codeRec_of (X₀.keeps F.keep) hcd) hroom hbind (kindsX hkind) hnd (fun g L' h₁ tk cells gk FG F' N' Y B' st l => h g L' h₁ tk cells gk FG F' N' Y B' (X₀.keeps st) (T.keeps st) l) hco hgen hk
end
def AllNq (d : Nat) : List (Addr × Obj) → Prop
  | [] => True
  | p :: r => @Ne Nat p.1 d ∧ AllNq d r
theorem allNq_of {d : Addr} : ∀ {l : List (Addr × Obj)}, (∀ p ∈ l, @Ne Nat p.1 d) → AllNq d l
  | [], _ => trivial
  | p :: _, h => ⟨h p (.head _), allNq_of fun q hq => h q (.tail _ hq)⟩
theorem allNq_out {d : Addr} : ∀ {l : List (Addr × Obj)}, AllNq d l → NeAll d l
  | [], _ => neNil
  | (_, _) :: _, h => neCons h.1 (allNq_out h.2)
end Mine
end

-- Src10
section
theorem Mine.offSrc10 : True := by
  w_top off
  trivial
open PySem PySem.W PyProof.Rows PySem.Calls
set_option linter.unusedVariables false
namespace Mine
open Mine10
def lineDef : Stmt := nthS (suite (nthS mainB 12)) 1
def lineB : List Stmt := suite lineDef
def lineScope : Scope := scopeS lineDef
def parS : Stmt → Arguments
  | .FunctionDef _ ps _ _ _ _ _ _ _ _ => ps
  | _ => default
def linePar : Arguments := parS lineDef
/-- the closure that reads one line -/
structure LineFn (fo oc : Obj) (lc c1 c2 c3 c4 : Addr) (q : Str) : Prop where
  cls : fo.cls = .type "function"
  fn : ∃ doc pm ct, fo.data = .func (fnX (Str.ofString "_law_line") q linePar lineB lineScope [(Str.ofString "source", c4), (Str.ofString "place", c3), (Str.ofString "marks", c2), (Str.ofString "items", c1)] .none .none doc pm none (.ref lc) ct)
  dict : fo.dict = none
  code : ∃ vsc t, oc.data = .fields vsc ∧ vsc[1]? = some (.str q t)
/-- the things of the source that stay as they are -/
abbrev statL (P : Params) (src tt ds lf lc c1 c2 c3 c4 : Addr) (o1 o2 o3 o4 oc fo : Obj) (tk : Tok) : List (Addr × Obj) :=
  [(ds, dictOf [⟨PyData.keyHash P (Str.ofString "readline"), .str (Str.ofString "readline") tk, .ref lf⟩] 1), (lf, fo), (lc, oc), (src, excObjD 31 tt ds), (tt, tupObj []), (c4, o4), (c3, o3), (c2, o2), (c1, o1)]
end Mine
end

-- Plain10
section
theorem Mine.offPlain10 : True := by
  w_top off
  trivial
open PySem PySem.W PyProof.Rows PySem.Spec PySem.Calls
set_option linter.unusedVariables false
namespace Mine
/-- what one place of the source holds -/
inductive It where
  | op
  | dot (b : Array UInt8) (t : Tok)
  | blank (b : Array UInt8) (t : Tok)
  | err (e : Addr)
def It.val : It → Value
  | .op => .none
  | .dot b t => .bytes b t
  | .blank b t => .bytes b t
  | .err e => .ref e
def It.mark : It → Nat
  | .op => 40
  | .dot _ _ => 46
  | .blank _ _ => 66
  | .err _ => 33
/-- what is told: octets, and lists of what is told -/
inductive Tr where
  | leaf (b : List UInt8)
  | node (l : List Tr)
/-- how a reading ends -/
inductive Out where
  | ok (l : List Tr) (a : Nat)
  | err (e : Addr) (a : Nat)
  | many (a : Nat)
def Out.pos : Out → Nat
  | .ok _ a => a
  | .err _ a => a
  | .many a => a
def Out.isOk : Out → Bool
  | .ok _ _ => true
  | _ => false
/-- the reading from place `at` of a list that holds `acc` so far -/
inductive RD (items : List It) : Nat → List Tr → Out → Prop
  | dot {i acc b t o} : items[i]? = some (.dot b t) → acc.length < 100 → RD items (i + 1) (acc ++ [.leaf b.toList]) o → RD items i acc o
  | dotMany {i acc b t} : items[i]? = some (.dot b t) → acc.length = 100 → RD items i acc (.many (i + 1))
  | blank {i acc b t} : items[i]? = some (.blank b t) → acc.length < 100 → RD items i acc (.ok (acc ++ [.leaf b.toList]) (i + 1))
  | blankMany {i acc b t} : items[i]? = some (.blank b t) → acc.length = 100 → RD items i acc (.many (i + 1))
  | eof {i acc} : items.length ≤ i → acc.length < 100 → RD items i acc (.ok (acc ++ [.leaf []]) (i + 1))
  | eofMany {i acc} : items.length ≤ i → acc.length = 100 → RD items i acc (.many (i + 1))
  | err {i acc e} : items[i]? = some (.err e) → RD items i acc (.err e (i + 1))
  | op {i acc l a o} : items[i]? = some .op → RD items (i + 1) [] (.ok l a) → acc.length < 100 → RD items a (acc ++ [.node l]) o → RD items i acc o
  | opMany {i acc l a} : items[i]? = some .op → RD items (i + 1) [] (.ok l a) → acc.length = 100 → RD items i acc (.many a)
  | opOut {i acc o} : items[i]? = some .op → RD items (i + 1) [] o → o.isOk = false → RD items i acc o
/-- the same by a stack: the innermost list first -/
inductive SM (items : List It) : Nat → List Tr → List (List Tr) → Out → Prop
  | dot {i top rest b t o} : items[i]? = some (.dot b t) → top.length < 100 → SM items (i + 1) (top ++ [.leaf b.toList]) rest o → SM items i top rest o
  | many {i top rest b t} : items[i]? = some (.dot b t) ∨ items[i]? = some (.blank b t) ∨ items.length ≤ i → top.length = 100 → SM items i top rest (.many (i + 1))
  | last {i top b} : (∃ t, items[i]? = some (.blank b t)) ∨ (items.length ≤ i ∧ b = #[]) → top.length < 100 → SM items i top [] (.ok (top ++ [.leaf b.toList]) (i + 1))
  | close {i top b r rs o} : (∃ t, items[i]? = some (.blank b t)) ∨ (items.length ≤ i ∧ b = #[]) → top.length < 100 → r.length < 100 → SM items (i + 1) (r ++ [.node (top ++ [.leaf b.toList])]) rs o → SM items i top (r :: rs) o
  | closeMany {i top b r rs} : (∃ t, items[i]? = some (.blank b t)) ∨ (items.length ≤ i ∧ b = #[]) → top.length < 100 → r.length = 100 → SM items i top (r :: rs) (.many (i + 1))
  | err {i top rest e} : items[i]? = some (.err e) → SM items i top rest (.err e (i + 1))
  | op {i top rest o} : items[i]? = some .op → SM items (i + 1) [] (top :: rest) o → SM items i top rest o
section
variable {items : List It}
/-- the stack answers as the recursion does -/
theorem rd_sm : ∀ {i acc o}, RD items i acc o → ∀ rest, (∀ l a, o = .ok l a → rest = [] → SM items i acc rest o) ∧
    (∀ l a r rs, o = .ok l a → rest = r :: rs → (r.length = 100 → SM items i acc rest (.many a)) ∧ (r.length < 100 → ∀ o', SM items a (r ++ [.node l]) rs o' → SM items i acc rest o')) ∧ (o.isOk = false → SM items i acc rest o) := by
  intro i acc o h
  induction h with
  | dot h1 h2 _ ih =>
    intro rest
    obtain ⟨a1, a2, a3⟩ := ih rest
    exact ⟨fun l a e r => .dot h1 h2 (a1 l a e r), fun l a r rs e er => ⟨fun hr => .dot h1 h2 ((a2 l a r rs e er).1 hr), fun hr o' z => .dot h1 h2 ((a2 l a r rs e er).2 hr o' z)⟩, fun z => .dot h1 h2 (a3 z)⟩
  | dotMany h1 h2 => exact fun rest => ⟨(fun l a e => by cases e), (fun l a r rs e => by cases e), fun _ => .many (.inl h1) h2⟩
  | blank h1 h2 =>
    intro rest
    refine ⟨fun l a e er => ?_, fun l a r rs e er => ?_, fun z => by cases z⟩
    · subst er; exact .last (.inl ⟨_, h1⟩) h2
    · cases e; subst er
      exact ⟨fun hr => .closeMany (.inl ⟨_, h1⟩) h2 hr, fun hr o' z => .close (.inl ⟨_, h1⟩) h2 hr z⟩
  | blankMany h1 h2 => exact fun rest => ⟨(fun l a e => by cases e), (fun l a r rs e => by cases e), fun _ => .many (.inr (.inl h1)) h2⟩
  | eof h1 h2 =>
    intro rest
    refine ⟨fun l a e er => ?_, fun l a r rs e er => ?_, fun z => by cases z⟩
    · subst er; exact .last (b := #[]) (.inr ⟨h1, rfl⟩) h2
    · cases e; subst er
      exact ⟨fun hr => .closeMany (b := #[]) (.inr ⟨h1, rfl⟩) h2 hr, fun hr o' z => .close (b := #[]) (.inr ⟨h1, rfl⟩) h2 hr z⟩
  | eofMany h1 h2 => exact fun rest => ⟨(fun l a e => by cases e), (fun l a r rs e => by cases e), fun _ => .many (b := #[]) (t := 0) (.inr (.inr h1)) h2⟩
  | err h1 => exact fun rest => ⟨(fun l a e => by cases e), (fun l a r rs e => by cases e), fun _ => .err h1⟩
  | op h1 _ h3 _ ih1 ih2 =>
    intro rest
    have n1 := ((ih1 (_ :: rest)).2.1 _ _ _ _ rfl rfl).2 h3
    obtain ⟨a1, a2, a3⟩ := ih2 rest
    exact ⟨fun l a e r => .op h1 (n1 _ (a1 l a e r)), fun l a r rs e er => ⟨fun hr => .op h1 (n1 _ ((a2 l a r rs e er).1 hr)), fun hr o' z => .op h1 (n1 _ ((a2 l a r rs e er).2 hr o' z))⟩, fun z => .op h1 (n1 _ (a3 z))⟩
  | opMany h1 _ h3 ih => exact fun rest => ⟨(fun l a e => by cases e), (fun l a r rs e => by cases e), fun _ => .op h1 (((ih (_ :: rest)).2.1 _ _ _ _ rfl rfl).1 h3)⟩
  | opOut h1 _ h3 ih => exact fun rest => ⟨(fun l a e => by subst e; cases h3), (fun l a r rs e => by subst e; cases h3), fun z => .op h1 ((ih (_ :: rest)).2.2 z)⟩
theorem sm_of_rd {i : Nat} {o : Out} (h : RD items i [] o) : SM items i [] [] o := by
  cases o with
  | ok l a => exact (rd_sm h []).1 l a rfl rfl
  | err e a => exact (rd_sm h []).2.2 rfl
  | many a => exact (rd_sm h []).2.2 rfl
theorem rd_lt {i acc o} (h : RD items i acc o) : i < o.pos := by
  induction h with
  | dot _ _ _ ih => omega
  | op _ _ _ _ ih1 ih2 =>
    have : ∀ (l : List Tr) (a : Nat), (Out.ok l a).pos = a := fun _ _ => rfl
    rw [this] at ih1
    omega
  | opMany _ _ _ ih =>
    have : ∀ (l : List Tr) (a : Nat), (Out.ok l a).pos = a := fun _ _ => rfl
    rw [this] at ih
    exact Nat.lt_trans (Nat.lt_succ_self _) ih
  | opOut _ _ _ ih => omega
  | _ => exact Nat.lt_succ_self _
/-- every reading ends -/
theorem rd_exists : ∀ (n i : Nat) (acc : List Tr), items.length + 1 ≤ i + n → acc.length ≤ 100 → ∃ o, RD items i acc o := by
  intro n
  induction n with
  | zero =>
    intro i acc h hl
    by_cases c : acc.length < 100
    · exact ⟨_, .eof (by omega) c⟩
    · exact ⟨_, .eofMany (by omega) (by omega)⟩
  | succ n ih =>
    intro i acc h hl
    cases hi : items[i]? with
    | none =>
      have hle : items.length ≤ i := List.getElem?_eq_none_iff.mp hi
      by_cases c : acc.length < 100
      · exact ⟨_, .eof hle c⟩
      · exact ⟨_, .eofMany hle (by omega)⟩
    | some x =>
      cases x with
      | dot b t =>
        by_cases c : acc.length < 100
        · obtain ⟨o, ho⟩ := ih (i + 1) (acc ++ [.leaf b.toList]) (by omega) (by simp; omega)
          exact ⟨o, .dot hi c ho⟩
        · exact ⟨_, .dotMany hi (by omega)⟩
      | blank b t =>
        by_cases c : acc.length < 100
        · exact ⟨_, .blank hi c⟩
        · exact ⟨_, .blankMany hi (by omega)⟩
      | err e => exact ⟨_, .err hi⟩
      | op =>
        obtain ⟨o, ho⟩ := ih (i + 1) [] (by omega) (by simp)
        cases o with
        | ok l a =>
          by_cases c : acc.length < 100
          · have ha : i + 1 < a := rd_lt ho
            obtain ⟨o, ho2⟩ := ih a (acc ++ [.node l]) (by omega) (by simp; omega)
            exact ⟨o, .op hi ho c ho2⟩
          · exact ⟨_, .opMany hi ho (by omega)⟩
        | err e a => exact ⟨_, .opOut hi ho rfl⟩
        | many a => exact ⟨_, .opOut hi ho rfl⟩
end
end Mine
end

-- Rules10
section
theorem Mine.offRules10 : True := by
  w_top off
  trivial
open PySem PySem.W PyProof.Rows PySem.Calls
set_option linter.unusedVariables false
namespace Mine
open Mine10
abbrev marksOf (items : List It) : Str := ⟨(items.map fun x => x.mark).toArray⟩
theorem marks_len (items : List It) : (marksOf items).length = items.length := by unfold Str.length; simp
section
variable {prog : Program} {w : World} {A : Around} {E : Value → Shared → Prop} {s : Shared} {h₀ : Heap} {L : Addr} {news : List (Addr × Obj)} {items : List It} {it : Addr} {ni i : Nat} {x : It} {u mt t : Tok} {Q : Value → Shared → Prop}
theorem it_len (N : News h₀ L s.heap news) (hm : (it, W.listOf (items.map It.val).toArray ni) ∈ news) (hlen : items.length ≤ 1000) (h : Q (.int (items.length : Int) (s.toks + 1)) { s with toks := s.toks + 1 + 1 }) : wpAny (model prog w) A (call (.builtin "len") [.ref it]) Q E s := by
  have e : (List.toArray (items.map It.val)).size = items.length := by simp
  exact len_list ⟨_, N.get hm, rfl, ni, rfl⟩ (by rw [e]; omega) (by rw [e]; exact h)
theorem it_item {value slice : Expr} (N : News h₀ L s.heap news) (hm : (it, W.listOf (items.map It.val).toArray ni) ∈ news) (hlen : items.length ≤ 1000) (hx : items[i]? = some x) (h : Q x.val s)
    (hs : subscripted slice false (.ref it) (.int (i : Int) u) = operate [.ref it, .int (i : Int) u] (getItem (.ref it) (.int (i : Int) u))) (ht : ∀ r, letTemporaryGo value (.ref it) r = pure ()) :
    wpAny (model prog w) A (subscriptTail value slice (.ref it) (.int (i : Int) u)) Q E s := by
  have hi : i < items.length := (List.getElem?_eq_some_iff.mp hx).1
  exact item_list (items := (items.map It.val).toArray) ⟨_, N.get hm, rfl, ni, rfl⟩ (by omega) (by omega) (by simp [hx]) h hs ht
theorem pl_item {value slice : Expr} {pl : Addr} {np : Nat} (N : News h₀ L s.heap news) (hm : (pl, W.listOf #[.int (i : Int) t] np) ∈ news) (h : Q (.int (i : Int) t) s)
    (hs : subscripted slice false (.ref pl) (.int 0 u) = operate [.ref pl, .int 0 u] (getItem (.ref pl) (.int 0 u))) (ht : ∀ r, letTemporaryGo value (.ref pl) r = pure ()) :
    wpAny (model prog w) A (subscriptTail value slice (.ref pl) (.int 0 u)) Q E s :=
  item_list (items := #[.int (i : Int) t]) ⟨_, N.get hm, rfl, np, rfl⟩ (by omega) (by omega) rfl h hs ht
theorem mk_item {value slice : Expr} (hlen : items.length ≤ 1000) (hx : items[i]? = some x) (h : Q (.str ⟨#[x.mark]⟩ s.toks) { s with toks := s.toks + 1 })
    (hs : subscripted slice false (.str (marksOf items) mt) (.int (i : Int) u) = operate [.str (marksOf items) mt, .int (i : Int) u] (getItem (.str (marksOf items) mt) (.int (i : Int) u))) (ht : ∀ r, letTemporaryGo value (.str (marksOf items) mt) r = pure ()) :
    wpAny (model prog w) A (subscriptTail value slice (.str (marksOf items) mt) (.int (i : Int) u)) Q E s := by
  have hi : i < items.length := (List.getElem?_eq_some_iff.mp hx).1
  refine KXi.item (marks_len items) (by omega) (by omega) (by omega) (fun _ => ?_) hs ht
  rw [item_meets ⟨by omega, by rw [marks_len]; omega⟩]
  have e : (marksOf items).cps.getD (Int.toNat i) 0 = x.mark := by simp [hx]
  rw [e]
  exact h
theorem str_one {a b : Nat} (h : a ≠ b) : ((⟨#[a]⟩ : Str) == ⟨#[b]⟩) = false := by
  rw [beq_eq_false_iff_ne]
  intro e
  cases e
  exact h rfl
theorem mark_no {c d : Nat} {y : Str} (hy : y = ⟨#[d]⟩) (hc : c ≠ d) (h : Q (.bool false) s) : wpAny (model prog w) A (compareOp .Eq (.str ⟨#[c]⟩ t) (.str y u)) Q E s := by
  subst hy
  exact PyProof.Rows.eq_str (by rw [str_one hc]; exact h)
theorem mark_yes {c : Nat} {y : Str} (hy : y = ⟨#[c]⟩) (h : Q (.bool true) s) : wpAny (model prog w) A (compareOp .Eq (.str ⟨#[c]⟩ t) (.str y u)) Q E s := by
  subst hy
  exact PyProof.Rows.eq_str (by rw [beq_self_eq_true]; exact h)
end
end Mine
end

-- Raise10
section
theorem Mine.offRaise10 : True := by
  w_top off
  trivial
open PySem PySem.W PyProof.Rows PySem.Calls
set_option linter.unusedVariables false
namespace Mine
open Mine10
/-- an exception that was made and never raised -/
structure Pris (P : Params) (oe : Obj) (e : Addr) (cls a0 : Value) : Prop where
  ob : ∃ vs, oe.cls = cls ∧ oe.data = .fields vs ∧ vs[0]? = some a0 ∧ vs[1]? = some .none
  base : ∀ (prog : Program) (w : World) (A : Around) (E : Value → Shared → Prop) (s : Shared) (Q : Bool → Shared → Prop), s.heap.get? e = some oe → (hd10.heap_39 P).In s.heap → Q true s → wpAny (model prog w) A (isInstance (.ref e) (.type "BaseException")) Q E s
  inst : ∀ (prog : Program) (w : World) (A : Around) (E : Value → Shared → Prop) (s : Shared) (Q : Value → Shared → Prop), s.heap.get? e = some oe → (hd10.heap_39 P).In s.heap → Q (.ref e) s → wpAny (model prog w) A (raisedInstance (.ref e)) Q E s
/-- a thing that may be raised, and what comes of it -/
def RaiseIt (P : Params) (E : Value → Shared → Prop) (v : Value) (s₁ : Shared) : Prop := ∃ e oe cls a0, v = .ref e ∧ s₁.heap.get? e = some oe ∧ Pris P oe e cls a0 ∧ (hd10.heap_39 P).In s₁.heap ∧ E (.ref e) s₁
section
variable {prog : Program} {w : World} {M : Model} {A : Around} {E : Value → Shared → Prop} {s : Shared} {env : Env}
theorem raise_any {ex : Expr} {pos : Pos} {Q : Flow → Shared → Prop} (hh : A.handled = none)
    (h : wpAny (model prog w) A (eval ex env) (RaiseIt w.params E) E s) : wpAny (model prog w) A (exec (.Raise (some ex) none pos) env) Q E s := by
  show wpAny (model prog w) A (do standAt pos; raiseStmt env (some (do let v ← eval ex env; standAt pos; pure v)) none) Q E s
  refine wpAny_bind (wpAny_standAt ?_)
  unfold raiseStmt
  dsimp only
  refine wpAny_bind (wpAny_bind (wpAny_mono h (fun v s₁ h₁ => wpAny_bind (wpAny_standAt (wpAny_pure ?_))) fun _ _ x => x))
  obtain ⟨e, oe, cls, a0, rfl, ha, R, X, hE⟩ := h₁
  obtain ⟨vs, _, hd, _, h1⟩ := R.ob
  have hnt : ∀ {Q' : Bool → Shared → Prop}, Q' false s₁ → wpAny (model prog w) A (isType (.ref e)) Q' E s₁ := by
    intro Q' hq
    simp only [isType, loadHead]
    refine wpAny_bind (wpAny_loadPart ha ?_)
    rw [hd]; exact wpAny_pure hq
  refine wpAny_bind (wpAny_pure ?_)
  dsimp only
  refine wpAny_bind (wpAny_holding ?_)
  unfold excFromValue isExcClass
  refine wpAny_bind (wpAny_bind (hnt ?_))
  simp only [Bool.false_eq_true, if_false]
  refine wpAny_pure ?_
  simp only [Bool.false_eq_true, if_false]
  refine wpAny_bind (R.base prog w A E s₁ _ ha X ?_)
  simp only [if_true]
  refine wpAny_pure ?_
  refine wpAny_bind (hnt ?_)
  simp only [Bool.false_eq_true, if_false]
  refine wpAny_bind (R.inst prog w A E s₁ _ ha X ?_)
  unfold setFlight raiseNew
  refine wpAny_bind (wpAny_bind (wpAny_field ha hd h1 ?_))
  rw [if_neg (by decide)]
  refine wpAny_pure (wpAny_bind (wpAny_handled ?_))
  rw [hh]
  first
    | exact wpAny_throw hE
    | exact wpAny_bind (wpAny_pure (wpAny_throw hE))
/-- it leaves the first frame -/
theorem fly_first {base : Heap} {l : List Env} {L e : Addr} {oe : Obj} {vs : Array Value} {a0 : Value} {Q : Unit → Shared → Prop} (hfr : A.frames = some (env :: l)) (hf : env.frame = some L) (FF : s.heap.FunFrames base (env :: l))
    (he : s.heap.get? e = some oe) (hd : oe.data = .fields vs) (h0 : vs[0]? = some a0) (h1 : vs[1]? = some .none)
    (hQ : ∀ B h', Heap.FlyingW B l e oe.cls a0 h' → (∀ b o, s.heap.get? b = some o → b ≠ e → b ∉ (env :: l).filterMap (·.frame) → B.get? b = some o) → s.heap.UpToSlots h' → Q () { s with heap := h' }) : wpAny M A (leaving env (.ref e)) Q E s := by
  have hin : ∀ env' ∈ (env :: l), ∀ b, env'.frame = some b → b ∈ e :: (env :: l).filterMap (·.frame) := fun env' he' b hb => .tail _ (List.mem_filterMap.mpr ⟨env', he', hb⟩)
  have hen : (hideAll s.heap (e :: (env :: l).filterMap (·.frame))).get? e = none := hideAll_none _ (.head _)
  refine wpAny_leaving_firstW (base := hideAll s.heap (e :: (env :: l).filterMap (·.frame))) hfr (funFrames_hide FF hin) hf he (fun b o z => of_hideAll _ z) hen hd h1 h0 fun h' hL => ?_
  obtain ⟨k1, ⟨_, _, k2⟩, k3, k4⟩ := hL
  exact hQ _ h' ⟨k1, hen, k2, k3⟩ (fun b o hb hne hnf => hideAll_get _ hb fun hm => by
    rcases List.mem_cons.mp hm with z | z
    · exact hne z
    · exact hnf z) k4
end
/-- an exception that has come to the frames `l`: all stays but the place, itself and the frames -/
def ExcP (pl : Addr) (l : List Env) (h : Heap) (h₀ : Heap) (L : Addr) (m : Str → Option Value) (i : Nat) (e : Addr) (cls a0 : Value) (h' : Heap) : Prop :=
  ∃ B g₂ t np, Heap.FlyingW B l e cls a0 h' ∧ (∀ b o, h.get? b = some o → b ≠ pl → b ≠ e → b ∉ l.filterMap (·.frame) → B.get? b = some o) ∧ B.get? pl = some (W.listOf #[.int (i : Int) t] np) ∧ Fr h₀ L g₂ m ∧ g₂.UpToSlots h'
end Mine
namespace Mine
open PySem PySem.W PyProof.Rows PySem.Calls Mine10
theorem frames_ne {A₀ : Around} {base h₀ : Heap} {outer : List Env} {env : Env} {L b : Addr} (B : Below A₀ base outer h₀) (hf : env.frame = some L) (hn : h₀.get? b = none) (hL : b ≠ L) : b ∉ (env :: outer).filterMap (·.frame) := by
  intro hm
  obtain ⟨env', he, hb⟩ := List.mem_filterMap.mp hm
  rcases List.mem_cons.mp he with rfl | he
  · rw [hf] at hb; exact hL (Option.some.inj hb).symm
  · obtain ⟨L₁, o₁, hf₁, ho₁⟩ := funFrames_in B.frames env' he
    rw [hf₁] at hb
    cases hb
    rw [hn] at ho₁
    cases ho₁
/-- from the callee's frame to the caller's -/
theorem exc_out {A₀ : Around} {base h₀ g h1 h' Bh : Heap} {outer : List Env} {env env' : Env} {L L' pl e : Addr} {m m1 : Str → Option Value} {s : Shared} {news rest : List (Addr × Obj)} {cls a0 : Value} {i : Nat} {t : Tok} {np : Nat}
    (B : Below A₀ base outer h₀) (hf : env.frame = some L) (hf' : env'.frame = some L') (gk : Gk s news g) (FG : Fr h₀ L g m) (F' : Fr g L' h1 m1) (N : News h₀ L s.heap news) (N' : News g L' h1 ((pl, W.listOf #[.int (i : Int) t] np) :: rest)) (hsub : ∀ p ∈ news, p.1 = pl ∨ p ∈ rest) (hpl : ∃ o, (pl, o) ∈ news) (hlt : ∀ p ∈ news, p.1 < L')
    (hne : e ≠ pl) (fl : Heap.FlyingW Bh (env :: outer) e cls a0 h') (hk : ∀ b o, h1.get? b = some o → b ≠ e → b ∉ (env' :: env :: outer).filterMap (·.frame) → Bh.get? b = some o) (up : h1.UpToSlots h') :
    ExcP pl (env :: outer) s.heap h₀ L m i e cls a0 h' := by
  obtain ⟨op, hop⟩ := hpl
  have cons : ∀ b, b ≠ L' → b ∉ (env :: outer).filterMap (·.frame) → b ∉ (env' :: env :: outer).filterMap (·.frame) := fun b h1 h2 hm => by
    rw [List.filterMap_cons, hf'] at hm
    rcases List.mem_cons.mp hm with z | z
    · exact h1 z
    · exact h2 z
  refine ⟨Bh, g, t, np, fl, fun b o hb h1' h2 h3 => hk b o ?_ h2 (cons b ?_ h3), hk pl _ (N' _ (.head _)).1 (Ne.symm hne) (cons pl ?_ (frames_ne B hf (N _ hop).2.2 (N _ hop).2.1)), FG, (Heap.UpToSlots.of_keeps F'.keep).trans up⟩
  · by_cases hm : b ∈ news.map (·.1)
    · obtain ⟨p, hp, rfl⟩ := List.mem_map.mp hm
      rcases hsub p hp with z | hr
      · exact absurd z h1'
      · have z := (N p hp).1
        rw [hb] at z
        cases z
        exact (N' p (.tail _ hr)).1
    · exact F'.keep b o (gk b o hb hm)
  · by_cases hm : b ∈ news.map (·.1)
    · obtain ⟨p, hp, rfl⟩ := List.mem_map.mp hm
      exact Nat.ne_of_lt (hlt p hp)
    · exact Nat.ne_of_lt (Nat.lt_of_lt_of_le (Heap.lt_size (gk b o hb hm)) F'.above)
  · exact Nat.ne_of_lt (hlt _ hop)
end Mine
end

-- ExcI10
section
theorem Mine.offExcI10 : True := by
  w_top off
  trivial
open PySem PySem.W PyProof.Rows PySem.Spec PySem.Calls Builtin Builtin.ObjectAttr Builtin.BaseException
set_option maxRecDepth 100000
set_option linter.unusedVariables false
namespace Mine
theorem ei_kind : builtinKind "Exception.__init__" = some .slot := by decide +kernel
theorem ei_split : splitId "Exception.__init__" = some ("Exception", "__init__") := by decide +kernel
theorem ei_plain : plainId "Exception.__init__" = true := by decide +kernel
theorem ei_entry : entryFor table "Exception.__init__" = some Builtin.«BaseException.__init__» := PySem.F.excBase_Exception.initEntry
section
variable {prog : Program} {w : World} {A : Around} {E : Value → Shared → Prop} {s : Shared} {K : Frag} {x C L tx : Addr} {h₀ : Heap} {m : Str → Option Value} {news : List (Addr × Obj)} {cd : ClassData} {v : Value} {Q : Value → Shared → Prop}
theorem exc_init1 {nm q : Str} {Nn : Addr} {bs bm bmB : List Value} {hdct : Bool} {sn : List Str} {sub : List Value} {ab : Bool} {col : Option Bool} {dd : Option Addr} {k0 k1 k2 k3 k5 : Option Value} {nid newId : String} {news' : Addr → List (Addr × Obj)} (Fb : ExcBaseFacts "Exception" nid "Exception.__init__" bmB) (F : Fr h₀ L s.heap m) (X₀ : K.In h₀) (N : News h₀ L s.heap news) (T : OwnTail h₀ bmB bm)
    (hC : K.lookup C = some (excClassObj nm q C Nn bs bm hdct sn sub ab col dd k0 k1 k2 k3 k5 newId)) (U : ∀ ty, Upd x (excObj C tx) (excObj C ty) news (news' ty))
    (h : ∀ ty h', Fr h₀ L h' m → News h₀ L h' ((ty, tupObj [v]) :: news' ty) → (∀ p ∈ news, p.1 < ty) → Q .none { s with heap := h' }) : wpAny (model prog w) A (call (.builtin "Exception.__init__") [.ref x, v]) Q E s := by
  obtain ⟨hh, g, d, t, os⟩ := s
  dsimp only at F N h
  obtain ⟨pre, post, e1, e2, p1, p2⟩ := (U hh.objs.size).split
  have hm : (x, excObj C tx) ∈ news := by rw [e1]; exact List.mem_append_right _ (.head _)
  have X := X₀.keeps F.keep
  refine wpAny_call (codeAny_call_builtin ei_plain ei_entry (wpAny_check_init_subU Fb (T.keeps F.keep) (X _ _ hC) (N _ hm).1 rfl ?_))
  unfold Builtin.«BaseException.__init__» bexcPut
  have old : h₀.get? hh.objs.size = none := ktu_new F (Nat.le_refl _)
  have hnL : hh.objs.size ≠ L := fun e => absurd F.ns.lt (by rw [show L = hh.objs.size from e.symm]; exact Nat.lt_irrefl _)
  have F1 : Fr h₀ L (hh.push (tupObj [v])) m := F.push _
  have N1 : News h₀ L (hh.push (tupObj [v])) ((hh.objs.size, tupObj [v]) :: pre ++ (x, excObj C tx) :: post) := fun p hp => by
    rcases List.mem_cons.mp hp with rfl | hp
    · exact ⟨Heap.get?_push_size _ rfl, hnL, old⟩
    · have z := N p (by rw [e1]; exact hp)
      exact ⟨Heap.get?_push_of_some _ z.1, z.2⟩
  have hxn : x < hh.objs.size := Heap.lt_size (N _ hm).1
  obtain ⟨U1, U2⟩ := news_upd (f := Obj.mapFields (·.setIfInBounds 0 (.ref hh.objs.size))) (o := excObj C tx) (o' := excObj C hh.objs.size) F1 N1 (fun p hp => by
    rcases List.mem_cons.mp hp with rfl | hp
    · exact Ne.symm (Nat.ne_of_lt hxn)
    · exact p1 p hp) p2 rfl rfl
  show wpAny _ _ (newTuple [v] >>= fun _ => _) _ _ _
  refine wpAny_bind (wpAny_newTuple ?_)
  have hx1 : (hh.push (tupObj [v])).get? x = some (excObj C tx) := Heap.get?_push_of_some _ (N _ hm).1
  refine wpAny_bind (wpAny_bind (wpAny_field hx1 rfl rfl (wpAny_bind (wpAny_setField hx1 rfl (by simp) ?_))))
  have fin := h hh.objs.size _ U1 (by rw [e2]; exact U2) fun p hp => Heap.lt_size (N p hp).1
  exact wpAny_letGo (wpAny_pure fin)
theorem exc_set_next {vs : Array Value} {sl : Array (Option Value)} {name : Str} {dx : Addr} {es₀ : List DictEntry} {n₀ : Nat} {od' : Obj} {Q : Unit → Shared → Prop} {news' : List (Addr × Obj)} (F : Fr h₀ L s.heap m) (X₀ : K.In h₀) (N : News h₀ L s.heap news) (S : ExcSet K C cd)
    (ht : takerIn K C name = some none) (hx : (x, (⟨.ref C, some dx, .fields vs, sl⟩ : Obj)) ∈ news) (e : Obj.putName name (PyData.keyHash w.params name) (.str name (s.toks + 1)) v (dictOf es₀ n₀) = od') (hnk : aRefKeyMayBeTheName name es₀.toArray = false) (hfr : od'.isFreed = false) (hsz : ∃ es n, od' = dictOf es n ∧ es.length ≤ 100)
    (U : Upd dx (dictOf es₀ n₀) od' news news')
    (h : ∀ h', Fr h₀ L h' m → News h₀ L h' news' → Q () { s with heap := h', toks := s.toks + 2 }) :
    wpAny (model prog w) A (setAttr (.ref x) name v) Q E s := by
  have X := X₀.keeps F.keep
  obtain ⟨hh, g, d, t, os⟩ := s
  dsimp only at F N X h e
  obtain ⟨pre, post, rfl, rfl, p1, p2⟩ := U.split
  have hx0 := (N _ hx).1
  have hd0 := (N (dx, dictOf es₀ n₀) (List.mem_append_right _ (.head _))).1
  have I : InstAt hh x ⟨.ref C, some dx, .fields vs, sl⟩ C (some (dictOf es₀ n₀)) := ⟨hx0, rfl, rfl, hd0⟩
  obtain ⟨F3, N3⟩ := news_upd (f := Obj.putName name (PyData.keyHash w.params name) (.str name (t + 1)) v) (o' := od') F N p1 p2 e hfr
  have hd3 := (N3 (dx, od') (List.mem_append_right _ (.head _))).1
  have fin := h _ F3 N3
  refine set_plain X I S.set (exc_osa_open (s := ⟨hh, g, d, t + 1, os⟩) X I S ht fun _ => ?_)
  refine wpAny_bind (wpAny_pure (wpAny_bind ?_))
  show wpAny _ _ (instanceDict x true) _ _ _
  unfold instanceDict
  refine wpAny_bind (wpAny_loadPart hx0 ?_)
  dsimp only
  refine wpAny_bind ((looks_clsIn X S.cls).at ?_)
  rw [S.dict]
  simp only [Bool.not_true, Bool.false_eq_true, if_false]
  refine wpAny_pure ?_
  show wpAny _ _ (storeInDict dx (Value.str name t) name v) _ _ _
  refine wpAny_bind (wpAny_pure (wpAny_bind ?_))
  unfold nsSet
  refine wpAny_bind (wpAny_bind (wpAny_askSetting (wpAny_pure (wpAny_bind (wpAny_mkText (wpAny_bind (wpAny_loadPart hd0 ?_)))))))
  obtain ⟨es, n, rfl, hes⟩ := hsz
  show wpAny _ _ (if aRefKeyMayBeTheName name es₀.toArray = true then _ else _) _ _ _
  rw [hnk]
  simp only [Bool.false_eq_true, if_false]
  refine wpAny_updatePart hd0 ?_
  refine wpAny_bind (wpAny_lookBehind hd3 (pastItsLine_dict (by rw [List.size_toArray, sizeLine_eq]; omega)) ?_)
  exact wpAny_pure fin
end
end Mine
end

-- ErrA10
section
theorem Mine.offErrA10 : True := by
  w_top off
  trivial
open PySem PySem.W PyProof.Rows PySem.Calls
set_option linter.unusedVariables false
namespace Mine
open Mine10
/-- the classes of the ten errors -/
def errCls : List Value := [.ref 31, .ref 116, .ref 97, .ref 78, .ref 51, .type "ValueError", .type "KeyError", .type "IndexError", .type "AssertionError", .type "ZeroDivisionError"]
/-- one of the ten errors, never raised -/
def Good (P : Params) (oe : Obj) (e : Addr) : Prop := (∃ a0, Pris P oe e oe.cls a0) ∧ oe.cls ∈ errCls
theorem pris_own {P : Params} {oe : Obj} {e C : Addr} {a0 : Value} {vs : Array Value} (hm : mroIn (hd10.heap_39 P) C (.type "BaseException") = some true) (ht : typeIn (hd10.heap_39 P) (.ref C) = some (.type "type"))
    (hc : oe.cls = .ref C) (hd : oe.data = .fields vs) (h0 : vs[0]? = some a0) (h1 : vs[1]? = some .none) : Pris P oe e oe.cls a0 where
  ob := ⟨vs, rfl, hd, h0, h1⟩
  base := fun prog w A E s Q he X hq => by
    have L0 : Looks (model prog w) s.heap (typeOf (.ref e)) (.ref C) := hc ▸ (Looks.ld he).andThen .now
    unfold isInstance
    exact wpAny_bind (L0.here ((looks_mroIn X hm).here hq))
  inst := fun prog w A E s Q he X hq => by
    have L0 : Looks (model prog w) s.heap (typeOf (.ref e)) (.ref C) := hc ▸ (Looks.ld he).andThen .now
    unfold raisedInstance
    refine wpAny_bind (L0.here (wpAny_bind ((looks_typeIn X ht).here ?_)))
    rw [if_pos (by decide)]
    exact wpAny_pure hq
theorem pris_type {P : Params} {oe : Obj} {e : Addr} {C N I : String} {a0 : Value} {vs : Array Value} (K : ExcClass C N I)
    (hc : oe.cls = .type C) (hd : oe.data = .fields vs) (h0 : vs[0]? = some a0) (h1 : vs[1]? = some .none) : Pris P oe e oe.cls a0 where
  ob := ⟨vs, rfl, hd, h0, h1⟩
  base := fun prog w A E s Q he X hq => wpAny_isInstance ⟨oe, he, hc⟩ K.base hq
  inst := fun prog w A E s Q he X hq => by
    have hT : s.TypeIs (.ref e) C := ⟨oe, he, hc⟩
    unfold raisedInstance
    refine wpAny_bind (wpAny_typeOf hT (wpAny_bind (m := typeOf (.type C)) (wpAny_pure ?_)))
    rw [if_pos K.metaType]
    exact wpAny_pure hq
theorem good_own {P : Params} {oe : Obj} {e C : Addr} {a0 : Value} {vs : Array Value} (hm : mroIn (hd10.heap_39 P) C (.type "BaseException") = some true) (ht : typeIn (hd10.heap_39 P) (.ref C) = some (.type "type")) (hx : Value.ref C ∈ errCls)
    (hc : oe.cls = .ref C) (hd : oe.data = .fields vs) (h0 : vs[0]? = some a0) (h1 : vs[1]? = some .none) : Good P oe e := ⟨⟨a0, pris_own hm ht hc hd h0 h1⟩, hc ▸ hx⟩
theorem mro31 (P : Params) : mroIn (hd10.heap_39 P) 31 (.type "BaseException") = some true := by kernel_rfl
theorem mro51 (P : Params) : mroIn (hd10.heap_39 P) 51 (.type "BaseException") = some true := by kernel_rfl
theorem mro78 (P : Params) : mroIn (hd10.heap_39 P) 78 (.type "BaseException") = some true := by kernel_rfl
theorem mro97 (P : Params) : mroIn (hd10.heap_39 P) 97 (.type "BaseException") = some true := by kernel_rfl
theorem mro116 (P : Params) : mroIn (hd10.heap_39 P) 116 (.type "BaseException") = some true := by kernel_rfl
theorem ty31 (P : Params) : typeIn (hd10.heap_39 P) (.ref 31) = some (.type "type") := by kernel_rfl
theorem ty51 (P : Params) : typeIn (hd10.heap_39 P) (.ref 51) = some (.type "type") := by kernel_rfl
theorem ty78 (P : Params) : typeIn (hd10.heap_39 P) (.ref 78) = some (.type "type") := by kernel_rfl
theorem ty97 (P : Params) : typeIn (hd10.heap_39 P) (.ref 97) = some (.type "type") := by kernel_rfl
theorem ty116 (P : Params) : typeIn (hd10.heap_39 P) (.ref 116) = some (.type "type") := by kernel_rfl
/-- what a tree does that makes one of the errors -/
def MkE (w : World) (A : Around) (s : Shared) (x : Sem Value) : Prop := ∀ (Q E : Value → Shared → Prop), (∀ e oe h' tk', Kp s.heap h' → s.heap.get? e = none → h'.get? e = some oe → Good w.params oe e → Q (.ref e) { s with heap := h', toks := tk' }) → wpAny (model prog10 w) A x Q E s
theorem mk_type {w : World} {A : Around} {s : Shared} {C N I : String} (K : ExcClass C N I) (hx : Value.type C ∈ errCls) {rest : List Value} (hrest : rest.length ≤ sizeLine) : MkE w A s (call (.type C) rest) := by
  intro Q E h
  refine call_exc K (fun h' e M => ?_) hrest
  obtain ⟨ob, t, h1, h2, h3⟩ := M.there
  exact h e ob h' s.toks M.keeps M.new h1 ⟨⟨t, pris_type K h2 h3 rfl rfl⟩, h2 ▸ hx⟩
theorem mk31 {w : World} {A : Around} {s : Shared} (X : (hd10.heap_39 w.params).In s.heap) {rest : List Value} (hrest : rest.length ≤ sizeLine) : MkE w A s (call (.ref 31) rest) := by
  intro Q E h
  obtain ⟨hh, g, d, t, os⟩ := s
  refine wpAny_call_exc_subT PySem.F.excBase_Exception (tail_of_in X (tailB _)) (X _ _ rfl) (.of_isNs (isNs_of_in X (ns30 _))) (nsMap_none_of_in X (ns30 _) (init30 _)) (fun h' e M => ?_) hrest
  obtain ⟨k, hnew, t0, e1, e2, e3⟩ := M
  exact h e _ h' t k hnew e1 (good_own (mro31 _) (ty31 _) (by decide) rfl rfl rfl rfl)
theorem exc_makeK {prog : Program} {w : World} {A : Around} {E : Value → Shared → Prop} {s : Shared} {K : Frag} {C L : Addr} {h₀ : Heap} {m : Str → Option Value} {nm q : Str} {N : Addr} {bs bm bmB : List Value} {hdct : Bool} {sn : List Str} {sub : List Value} {ab : Bool} {col : Option Bool} {dd : Option Addr} {k0 k1 k2 k3 k5 : Option Value} {B newId initId : String} {Q : Value → Shared → Prop}
    (Fb : ExcBaseFacts B newId initId bmB) {rest : List Value} {fI : Addr} (F : Fr h₀ L s.heap m) (X₀ : K.In h₀) (T : OwnTail h₀ bmB bm)
    (hC : K.lookup C = some (excClassObj nm q C N bs bm hdct sn sub ab col dd k0 k1 k2 k3 k5 newId)) (hi : findIn K (.ref C) "__init__" = some (some (.ref fI))) (hf : typeIn K (.ref fI) = some (.type "function"))
    (hrest : rest.length ≤ sizeLine)
    (h : ∀ x tx h', Kp s.heap h' → s.heap.get? x = none → s.heap.get? tx = none → Fr h₀ L h' m → News h₀ L h' [(x, excObj C tx), (tx, tupObj rest)] → @LT.lt Nat _ tx x →
      codeAny (model prog w) (A.under (.builtin "type.__call__" ⟨.ref C :: rest, []⟩)) (.call (.ref fI) ⟨.ref x :: rest, []⟩) (InitBack x fun r s' => match r with | .ok (.ret v) => Q v s' | .ok _ => False | .error e => E e s') { s with heap := h' }) :
    wpAny (model prog w) A (call (.ref C) rest) Q E s := by
  obtain ⟨hh, g, d, t, os⟩ := s
  refine wpAny_call (exc_call Fb (T.keeps F.keep) (X₀.keeps F.keep) hC hi hf (h _ hh.objs.size _ (fun b o e => Heap.get?_push_of_some _ (Heap.get?_push_of_some _ e)) (Heap.get?_none_of_le (Nat.le_succ _)) (Heap.get?_none_of_le (Nat.le_refl _)) ((F.push _).push _) ?_ (Nat.lt_succ_self _)) hrest)
  have Nw : News h₀ L hh [] := fun p hp => nomatch hp
  have := (Nw.push F (tupObj rest)).push (F.push _) (excObj C hh.objs.size)
  rwa [Heap.size_push] at this
end Mine
end

-- ErrB10
section
theorem Mine.offErrB10 : True := by
  w_top off
  trivial
open PySem PySem.W PyProof.Rows PySem.Calls
set_option linter.unusedVariables false
namespace Mine
open Mine10
theorem set51 (P : Params) : ExcSet (hd10.heap_39 P) 51 (cdOf P 51) := ⟨by kernel_rfl, fun self => refuse_exc2 51 31 self, by kernel_rfl, by kernel_rfl, by kernel_rfl, by kernel_rfl, by kernel_rfl, by kernel_rfl⟩
theorem set97 (P : Params) : ExcSet (hd10.heap_39 P) 97 (cdOf P 97) := ⟨by kernel_rfl, fun self => refuse_exc2 97 31 self, by kernel_rfl, by kernel_rfl, by kernel_rfl, by kernel_rfl, by kernel_rfl, by kernel_rfl⟩
theorem set78 (P : Params) : ExcSet (hd10.heap_39 P) 78 (cdOf P 78) := ⟨by kernel_rfl, fun self => refuse_exc2 78 31 self, by kernel_rfl, by kernel_rfl, by kernel_rfl, by kernel_rfl, by kernel_rfl, by kernel_rfl⟩
theorem takerLine (P : Params) : takerIn (hd10.heap_39 P) 97 "line" = some none := by kernel_rfl
theorem takerVer (P : Params) : takerIn (hd10.heap_39 P) 51 "version" = some none := by kernel_rfl
theorem takerPar (P : Params) : takerIn (hd10.heap_39 P) 78 "partial" = some none := by kernel_rfl
theorem takerExp (P : Params) : takerIn (hd10.heap_39 P) 78 "expected" = some none := by kernel_rfl
theorem putPar (hs hs2 : Int) (tk tk2 : Tok) (v v2 : Value) : Obj.putName (Str.ofString "expected") hs2 (.str (Str.ofString "expected") tk2) v2 (dictOf [⟨hs, .str (Str.ofString "partial") tk, v⟩] 1) = dictOf [⟨hs, .str (Str.ofString "partial") tk, v⟩, ⟨hs2, .str (Str.ofString "expected") tk2, v2⟩] 2 := by kernel_rfl
theorem nkPar (hs : Int) (tk : Tok) (v : Value) : aRefKeyMayBeTheName (Str.ofString "expected") (List.toArray [⟨hs, .str (Str.ofString "partial") tk, v⟩]) = false := by kernel_rfl
theorem exc_next78 {prog : Program} {w : World} {A : Around} {E : Value → Shared → Prop} {s : Shared} {x L ty dx : Addr} {h₀ : Heap} {m : Str → Option Value} {news news' : List (Addr × Obj)} {v v1 : Value} {h1 : Int} {t1 : Tok} {Q : Unit → Shared → Prop} (F : Fr h₀ L s.heap m) (X₀ : (hd10.heap_39 w.params).In h₀) (N : News h₀ L s.heap news) (hx : (x, excObjD 78 ty dx) ∈ news)
    (U : Upd dx (dictOf [⟨h1, .str (Str.ofString "partial") t1, v1⟩] 1) (dictOf [⟨h1, .str (Str.ofString "partial") t1, v1⟩, ⟨PyData.keyHash w.params (Str.ofString "expected"), .str (Str.ofString "expected") (s.toks + 1), v⟩] 2) news news')
    (h : ∀ h', Fr h₀ L h' m → News h₀ L h' news' → Q () { s with heap := h', toks := s.toks + 2 }) : wpAny (model prog w) A (setAttr (.ref x) (Str.ofString "expected") v) Q E s :=
  exc_set_next F X₀ N (set78 _) (takerExp _) hx (putPar _ _ _ _ _ _) (nkPar _ _ _) rfl ⟨_, _, rfl, (by decide : (2 : Nat) ≤ 100)⟩ U h
local macro_rules | `(tactic| walk_at "setAttr ref") => `(tactic| (k_here; k_dflt (refine' exc_first1 ?k1 ?k2 ?k3 ?k5 ?k6 ?k7 ?_; (case k1 => k_asm); (case k2 => k_asm); (case k3 => k_asm); (case k7 => (intro dx'; k_upd)); (case k5 => first | exact set97 _ | exact set51 _ | exact set78 _); (case k6 => first | exact takerLine _ | exact takerVer _ | exact takerPar _); k_whole; intro d' h' F' N' l1; (try k_lt l1))))
local macro_rules | `(tactic| walk_at "setAttr ref") => `(tactic| (k_here; (with_reducible show wpAny _ _ (setAttr (Value.ref _) (PySem.Str.ofString "args") (Value.ref _)) _ _ _); k_dflt (refine exc_args1 (by k_asm) (by k_asm) (by k_asm) (by k_mem) (by first | exact set97 _ | exact set51 _ | exact set78 _) (by exact tup_news (by k_asm) (by k_mem)) (by k_upd) ?_; k_whole; intro h' F' N')))
local macro_rules | `(tactic| walk_at "setAttr ref") => `(tactic| (k_here; (with_reducible show wpAny _ _ (setAttr (Value.ref _) (PySem.Str.ofString "expected") _) _ _ _); k_dflt (refine exc_next78 (by k_asm) (by k_asm) (by k_asm) (by k_mem) (by k_upd) ?_; k_whole; intro h' F' N')))
local macro_rules | `(tactic| walk_at "call builtin:Exception.__init__") => `(tactic| (k_here; k_dflt (refine' exc_init1 (C := 116) PySem.F.excBase_Exception ?k1 ?k2 ?k3 ?k4 ?k5 ?k6 ?_; (case k1 => k_asm); (case k2 => k_asm); (case k3 => k_asm); (case k5 => exact rfl); (case k4 => exact tail_of_in (by k_asm) (tail31 _)); (case k6 => (intro ty'; k_upd)); k_whole; intro ty' h' F' N' l1; (try k_lt l1))))
set_option maxRecDepth 100000 in
set_option maxHeartbeats 2000000 in
theorem mk51 {w : World} {mean : ExcName → Option Value} {mg mb : Str → Option Value} {dp un : Nat} {gd : Option (List Code)} {cn : Str} {cs : Scope} {a : Addr} {ccd : Value} {cl : List (Str × Addr)} {outer : List Env} {A₀ : Around} {base h₀ : Heap} {L : Addr} {m : Str → Option Value} {s : Shared} {t t2 : Tok}
    (B : Below A₀ base outer h₀) (F : Fr h₀ L s.heap m) (X : (hd10.heap_39 w.params).In h₀) (T : Top topProg loose10 mean mg mb h₀) (C : CodeHd base 138 134) (hk : cs.kind = .function) (hdp : dp + 9 < recursionLimit) (hun : un + 200 < cLine) :
    MkE w (ktrTop dp un gd cn cs L a ccd cl outer) s (call (.ref 51) [.str (Str.ofString "HTTP/3") t]) := by
  intro Q E h
  have hfill : PySem.Challenge.rw_dm0148_10.about = PySem.Challenge.rw_dm0148_10.about ∧ hd10.heap_39 = hd10.heap_39 := by k_fill; exact ⟨rfl, rfl⟩
  clear hfill
  refine' exc_makeK (C := 51) PySem.F.excBase_Exception F X ?k4 ?k5 ?k6 ?k7 ?k8 ?_
  case k4 => exact tail_of_in X (tail31 _)
  case k5 => exact rfl
  case k6 => k_is
  case k7 => k_is
  case k8 => exact (by decide : 1 ≤ sizeLine)
  intro x tx h1 kp1 n1 n2 F1 N1 lt1
  k_dflt (refine' code_keep B F1 X N1 T rfl rfl hk ?k6 ?k7 ?k8 ?k9 ?kB ?_ ?c2 ?c3 ?c4 ?c5; (case k6 => k_is); (case k7 => k_is); (case k8 => (show dp + 1 < recursionLimit; omega)); (case k9 => first | exact BindsTo.of_eq rfl | exact binds_K (X.keeps F1.keep) rfl (by k_is) rfl rfl rfl); (case kB => exact locs rfl); (case c2 => exact rfl); (case c3 => exact rfl); (case c4 => exact rfl); (case c5 => decide); k_whole)
  intro g' L' h' gk' FG' F' N' B' X' T' l1
  k_lt l1
  (try dsimp only)
  w_strict (k_steps)
  (rename Fr g' L' _ _ => kG)
  (rename News g' L' _ _ => kNg)
  refine h x _ _ _ (fun b o hb => kG.keep b o (gk' b o (kp1 b o hb) ?_)) n1 (kNg.get (by k_mem)) (good_own (mro51 _) (ty51 _) (by decide) rfl rfl rfl rfl)
  simp only [List.map_cons, List.map_nil, List.mem_cons, List.not_mem_nil, or_false, not_or]
  exact ⟨fun z => by (rw [z, n1] at hb; cases hb), fun z => by (rw [z, n2] at hb; cases hb)⟩
set_option maxRecDepth 100000 in
set_option maxHeartbeats 2000000 in
theorem mk97 {w : World} {mean : ExcName → Option Value} {mg mb : Str → Option Value} {dp un : Nat} {gd : Option (List Code)} {cn : Str} {cs : Scope} {a : Addr} {ccd : Value} {cl : List (Str × Addr)} {outer : List Env} {A₀ : Around} {base h₀ : Heap} {L : Addr} {m : Str → Option Value} {s : Shared} {t t2 : Tok}
    (B : Below A₀ base outer h₀) (F : Fr h₀ L s.heap m) (X : (hd10.heap_39 w.params).In h₀) (T : Top topProg loose10 mean mg mb h₀) (C : CodeHd base 138 134) (hk : cs.kind = .function) (hdp : dp + 9 < recursionLimit) (hun : un + 200 < cLine) :
    MkE w (ktrTop dp un gd cn cs L a ccd cl outer) s (call (.ref 97) [.str (Str.ofString "") t]) := by
  intro Q E h
  have hfill : PySem.Challenge.rw_dm0148_10.about = PySem.Challenge.rw_dm0148_10.about ∧ hd10.heap_39 = hd10.heap_39 := by k_fill; exact ⟨rfl, rfl⟩
  clear hfill
  refine' exc_makeK (C := 97) PySem.F.excBase_Exception F X ?k4 ?k5 ?k6 ?k7 ?k8 ?_
  case k4 => exact tail_of_in X (tail31 _)
  case k5 => exact rfl
  case k6 => k_is
  case k7 => k_is
  case k8 => exact (by decide : 1 ≤ sizeLine)
  intro x tx h1 kp1 n1 n2 F1 N1 lt1
  k_dflt (refine' code_keep B F1 X N1 T rfl rfl hk ?k6 ?k7 ?k8 ?k9 ?kB ?_ ?c2 ?c3 ?c4 ?c5; (case k6 => k_is); (case k7 => k_is); (case k8 => (show dp + 1 < recursionLimit; omega)); (case k9 => first | exact BindsTo.of_eq rfl | exact binds_K (X.keeps F1.keep) rfl (by k_is) rfl rfl rfl); (case kB => exact locs rfl); (case c2 => exact rfl); (case c3 => exact rfl); (case c4 => exact rfl); (case c5 => decide); k_whole)
  intro g' L' h' gk' FG' F' N' B' X' T' l1
  k_lt l1
  (try dsimp only)
  w_strict (k_steps)
  (rename Fr g' L' _ _ => kG)
  (rename News g' L' _ _ => kNg)
  refine h x _ _ _ (fun b o hb => kG.keep b o (gk' b o (kp1 b o hb) ?_)) n1 (kNg.get (by k_mem)) (good_own (mro97 _) (ty97 _) (by decide) rfl rfl rfl rfl)
  simp only [List.map_cons, List.map_nil, List.mem_cons, List.not_mem_nil, or_false, not_or]
  exact ⟨fun z => by (rw [z, n1] at hb; cases hb), fun z => by (rw [z, n2] at hb; cases hb)⟩
set_option maxRecDepth 100000 in
set_option maxHeartbeats 2000000 in
theorem mk78 {w : World} {mean : ExcName → Option Value} {mg mb : Str → Option Value} {dp un : Nat} {gd : Option (List Code)} {cn : Str} {cs : Scope} {a : Addr} {ccd : Value} {cl : List (Str × Addr)} {outer : List Env} {A₀ : Around} {base h₀ : Heap} {L : Addr} {m : Str → Option Value} {s : Shared} {t t2 : Tok}
    (B : Below A₀ base outer h₀) (F : Fr h₀ L s.heap m) (X : (hd10.heap_39 w.params).In h₀) (T : Top topProg loose10 mean mg mb h₀) (C : CodeHd base 138 134) (hk : cs.kind = .function) (hdp : dp + 9 < recursionLimit) (hun : un + 200 < cLine) :
    MkE w (ktrTop dp un gd cn cs L a ccd cl outer) s (call (.ref 78) [.bytes #[97, 98] t, .int 3 t2]) := by
  intro Q E h
  have hfill : PySem.Challenge.rw_dm0148_10.about = PySem.Challenge.rw_dm0148_10.about ∧ hd10.heap_39 = hd10.heap_39 := by k_fill; exact ⟨rfl, rfl⟩
  clear hfill
  refine' exc_makeK (C := 78) PySem.F.excBase_Exception F X ?k4 ?k5 ?k6 ?k7 ?k8 ?_
  case k4 => exact tail_of_in X (tail31 _)
  case k5 => exact rfl
  case k6 => k_is
  case k7 => k_is
  case k8 => exact (by decide : 2 ≤ sizeLine)
  intro x tx h1 kp1 n1 n2 F1 N1 lt1
  k_dflt (refine' code_keep B F1 X N1 T rfl rfl hk ?k6 ?k7 ?k8 ?k9 ?kB ?_ ?c2 ?c3 ?c4 ?c5; (case k6 => k_is); (case k7 => k_is); (case k8 => (show dp + 1 < recursionLimit; omega)); (case k9 => first | exact BindsTo.of_eq rfl | exact binds_K (X.keeps F1.keep) rfl (by k_is) rfl rfl rfl); (case kB => exact locs rfl); (case c2 => exact rfl); (case c3 => exact rfl); (case c4 => exact rfl); (case c5 => decide); k_whole)
  intro g' L' h' gk' FG' F' N' B' X' T' l1
  k_lt l1
  (try dsimp only)
  w_strict (k_steps)
  (rename Fr g' L' _ _ => kG)
  (rename News g' L' _ _ => kNg)
  refine h x _ _ _ (fun b o hb => kG.keep b o (gk' b o (kp1 b o hb) ?_)) n1 (kNg.get (by k_mem)) (good_own (mro78 _) (ty78 _) (by decide) rfl rfl rfl rfl)
  simp only [List.map_cons, List.map_nil, List.mem_cons, List.not_mem_nil, or_false, not_or]
  exact ⟨fun z => by (rw [z, n1] at hb; cases hb), fun z => by (rw [z, n2] at hb; cases hb)⟩
set_option maxRecDepth 100000 in
set_option maxHeartbeats 2000000 in
theorem mk116 {w : World} {mean : ExcName → Option Value} {mg mb : Str → Option Value} {dp un : Nat} {gd : Option (List Code)} {cn : Str} {cs : Scope} {a : Addr} {ccd : Value} {cl : List (Str × Addr)} {outer : List Env} {A₀ : Around} {base h₀ : Heap} {L : Addr} {m : Str → Option Value} {s : Shared} {t t2 : Tok}
    (B : Below A₀ base outer h₀) (F : Fr h₀ L s.heap m) (X : (hd10.heap_39 w.params).In h₀) (T : Top topProg loose10 mean mg mb h₀) (C : CodeHd base 138 134) (hk : cs.kind = .function) (hdp : dp + 9 < recursionLimit) (hun : un + 200 < cLine) :
    MkE w (ktrTop dp un gd cn cs L a ccd cl outer) s (call (.ref 116) [.str (Str.ofString "header line") t]) := by
  intro Q E h
  have hfill : PySem.Challenge.rw_dm0148_10.about = PySem.Challenge.rw_dm0148_10.about ∧ hd10.heap_39 = hd10.heap_39 := by k_fill; exact ⟨rfl, rfl⟩
  clear hfill
  refine' exc_makeK (C := 116) PySem.F.excBase_Exception F X ?k4 ?k5 ?k6 ?k7 ?k8 ?_
  case k4 => exact tail_of_in X (tail31 _)
  case k5 => exact rfl
  case k6 => k_is
  case k7 => k_is
  case k8 => exact (by decide : 1 ≤ sizeLine)
  intro x tx h1 kp1 n1 n2 F1 N1 lt1
  k_dflt (refine' code_keep B F1 X N1 T rfl rfl hk ?k6 ?k7 ?k8 ?k9 ?kB ?_ ?c2 ?c3 ?c4 ?c5; (case k6 => k_is); (case k7 => k_is); (case k8 => (show dp + 1 < recursionLimit; omega)); (case k9 => first | exact BindsTo.of_eq rfl | exact binds_K (X.keeps F1.keep) rfl (by k_is) rfl rfl rfl); (case kB => exact locs rfl); (case c2 => exact rfl); (case c3 => exact rfl); (case c4 => exact rfl); (case c5 => decide); k_whole)
  intro g' L' h' gk' FG' F' N' B' X' T' l1
  k_lt l1
  (try dsimp only)
  w_strict (k_steps)
  (rename Fr g' L' _ _ => kG)
  (rename News g' L' _ _ => kNg)
  refine h x _ _ _ (fun b o hb => kG.keep b o (gk' b o (kp1 b o hb) ?_)) n1 (kNg.get (by k_mem)) (good_own (mro116 _) (ty116 _) (by decide) rfl rfl rfl rfl)
  simp only [List.map_cons, List.map_nil, List.mem_cons, List.not_mem_nil, or_false, not_or]
  exact ⟨fun z => by (rw [z, n1] at hb; cases hb), fun z => by (rw [z, n2] at hb; cases hb)⟩
end Mine
end

-- El10
section
theorem Mine.offEl10 : True := by
  w_top off
  trivial
open PySem PySem.W PyProof.Rows PySem.Calls
set_option linter.unusedVariables false
namespace Mine
open Mine10
def errDef : Stmt := nthS mainB 10
def errB : List Stmt := suite errDef
def errScope : Scope := scopeS errDef
abbrev errE (L : Addr) : Env := envOf (Str.ofString "_law_error") errScope L 125 (.ref 124)
abbrev errA (dp un : Nat) (gd : Option (List Code)) (L : Addr) (outer : List Env) : Around := ktrTop dp un gd (Str.ofString "_law_error") errScope L 125 (.ref 124) [] outer
def retE : Stmt → Expr
  | .Return (some e) _ => e
  | _ => .Constant .none 0 default
def eltsOf : Expr → List Expr
  | .Subscript e _ _ => eltsOf e
  | .List es _ => es
  | _ => []
def errElts : List Expr := eltsOf (retE (nthS errB 0))
def nthE (l : List Expr) (i : Nat) : Expr := l.getD i (.Constant .none 0 default)
theorem err_kind : errScope.kind = .function := by kernel_rfl
theorem in_of {K : Frag} {h₀ h : Heap} {L : Addr} {m : Str → Option Value} (X : K.In h₀) (F : Fr h₀ L h m) : K.In h := X.keeps F.keep
local macro_rules | `(tactic| walk_at "call ref") => `(tactic| (k_here; k_dflt (refine mk31 (in_of (by k_asm) (by k_asm)) (by exact (by decide : 1 ≤ sizeLine)) _ _ ?_); intro e' oe' h' tk' kp' n' g' G'))
local macro_rules | `(tactic| walk_at "call type:ValueError") => `(tactic| (k_here; k_dflt (refine mk_type excClass_ValueError (by decide) (by exact (by decide : 1 ≤ sizeLine)) _ _ ?_); intro e' oe' h' tk' kp' n' g' G'))
local macro_rules | `(tactic| walk_at "call type:KeyError") => `(tactic| (k_here; k_dflt (refine mk_type excClass_KeyError (by decide) (by exact (by decide : 1 ≤ sizeLine)) _ _ ?_); intro e' oe' h' tk' kp' n' g' G'))
local macro_rules | `(tactic| walk_at "call type:IndexError") => `(tactic| (k_here; k_dflt (refine mk_type excClass_IndexError (by decide) (by exact (by decide : 0 ≤ sizeLine)) _ _ ?_); intro e' oe' h' tk' kp' n' g' G'))
local macro_rules | `(tactic| walk_at "call type:AssertionError") => `(tactic| (k_here; k_dflt (refine mk_type excClass_AssertionError (by decide) (by exact (by decide : 1 ≤ sizeLine)) _ _ ?_); intro e' oe' h' tk' kp' n' g' G'))
local macro_rules | `(tactic| walk_at "call type:ZeroDivisionError") => `(tactic| (k_here; k_dflt (refine mk_type excClass_ZeroDivisionError (by decide) (by exact (by decide : 0 ≤ sizeLine)) _ _ ?_); intro e' oe' h' tk' kp' n' g' G'))
set_option maxRecDepth 100000 in
set_option maxHeartbeats 2000000 in
theorem el_0 {w : World} {mean : ExcName → Option Value} {mg mb : Str → Option Value} {dp un : Nat} {gd : Option (List Code)} {outer : List Env} {A₀ : Around} {base h₀ : Heap} {L : Addr} {m : Str → Option Value} {s : Shared}
    (B : Below A₀ base outer h₀) (X : (hd10.heap_39 w.params).In h₀) (T : Top topProg loose10 mean mg mb h₀) (C : CodeHd base 138 134) (hdp : dp + 9 < recursionLimit) (hun : un + 200 < cLine) (F : Fr h₀ L s.heap m) :
    MkE w (errA dp un gd L outer) s (eval (nthE errElts 0) (errE L)) := by
  intro Q E h
  have hfill : PySem.Challenge.rw_dm0148_10.about = PySem.Challenge.rw_dm0148_10.about ∧ hd10.heap_39 = hd10.heap_39 := by k_fill; exact ⟨rfl, rfl⟩
  clear hfill
  have N : News h₀ L s.heap [] := fun p hp => nomatch hp
  conv in (eval _ _) => arg 1; whnf
  w_strict (k_steps)
  exact h _ _ _ _ (by assumption) (by assumption) (by assumption) (by assumption)
set_option maxRecDepth 100000 in
set_option maxHeartbeats 2000000 in
theorem el_1 {w : World} {mean : ExcName → Option Value} {mg mb : Str → Option Value} {dp un : Nat} {gd : Option (List Code)} {outer : List Env} {A₀ : Around} {base h₀ : Heap} {L : Addr} {m : Str → Option Value} {s : Shared}
    (B : Below A₀ base outer h₀) (X : (hd10.heap_39 w.params).In h₀) (T : Top topProg loose10 mean mg mb h₀) (C : CodeHd base 138 134) (hdp : dp + 9 < recursionLimit) (hun : un + 200 < cLine) (F : Fr h₀ L s.heap m) :
    MkE w (errA dp un gd L outer) s (eval (nthE errElts 1) (errE L)) := by
  intro Q E h
  have hfill : PySem.Challenge.rw_dm0148_10.about = PySem.Challenge.rw_dm0148_10.about ∧ hd10.heap_39 = hd10.heap_39 := by k_fill; exact ⟨rfl, rfl⟩
  clear hfill
  have N : News h₀ L s.heap [] := fun p hp => nomatch hp
  conv in (eval _ _) => arg 1; whnf
  w_strict (k_steps)
  exact mk116 (s := ⟨s.heap, s.gens, s.drawn, s.toks + 1, s.os⟩) (gd := gd) (t2 := 0) B F X T C err_kind hdp hun _ _ h
set_option maxRecDepth 100000 in
set_option maxHeartbeats 2000000 in
theorem el_2 {w : World} {mean : ExcName → Option Value} {mg mb : Str → Option Value} {dp un : Nat} {gd : Option (List Code)} {outer : List Env} {A₀ : Around} {base h₀ : Heap} {L : Addr} {m : Str → Option Value} {s : Shared}
    (B : Below A₀ base outer h₀) (X : (hd10.heap_39 w.params).In h₀) (T : Top topProg loose10 mean mg mb h₀) (C : CodeHd base 138 134) (hdp : dp + 9 < recursionLimit) (hun : un + 200 < cLine) (F : Fr h₀ L s.heap m) :
    MkE w (errA dp un gd L outer) s (eval (nthE errElts 2) (errE L)) := by
  intro Q E h
  have hfill : PySem.Challenge.rw_dm0148_10.about = PySem.Challenge.rw_dm0148_10.about ∧ hd10.heap_39 = hd10.heap_39 := by k_fill; exact ⟨rfl, rfl⟩
  clear hfill
  have N : News h₀ L s.heap [] := fun p hp => nomatch hp
  conv in (eval _ _) => arg 1; whnf
  w_strict (k_steps)
  exact mk97 (s := ⟨s.heap, s.gens, s.drawn, s.toks + 1, s.os⟩) (gd := gd) (t2 := 0) B F X T C err_kind hdp hun _ _ h
set_option maxRecDepth 100000 in
set_option maxHeartbeats 2000000 in
theorem el_3 {w : World} {mean : ExcName → Option Value} {mg mb : Str → Option Value} {dp un : Nat} {gd : Option (List Code)} {outer : List Env} {A₀ : Around} {base h₀ : Heap} {L : Addr} {m : Str → Option Value} {s : Shared}
    (B : Below A₀ base outer h₀) (X : (hd10.heap_39 w.params).In h₀) (T : Top topProg loose10 mean mg mb h₀) (C : CodeHd base 138 134) (hdp : dp + 9 < recursionLimit) (hun : un + 200 < cLine) (F : Fr h₀ L s.heap m) :
    MkE w (errA dp un gd L outer) s (eval (nthE errElts 3) (errE L)) := by
  intro Q E h
  have hfill : PySem.Challenge.rw_dm0148_10.about = PySem.Challenge.rw_dm0148_10.about ∧ hd10.heap_39 = hd10.heap_39 := by k_fill; exact ⟨rfl, rfl⟩
  clear hfill
  have N : News h₀ L s.heap [] := fun p hp => nomatch hp
  conv in (eval _ _) => arg 1; whnf
  w_strict (k_steps)
  exact mk78 (s := ⟨s.heap, s.gens, s.drawn, s.toks + 1 + 1, s.os⟩) (gd := gd) B F X T C err_kind hdp hun _ _ h
set_option maxRecDepth 100000 in
set_option maxHeartbeats 2000000 in
theorem el_4 {w : World} {mean : ExcName → Option Value} {mg mb : Str → Option Value} {dp un : Nat} {gd : Option (List Code)} {outer : List Env} {A₀ : Around} {base h₀ : Heap} {L : Addr} {m : Str → Option Value} {s : Shared}
    (B : Below A₀ base outer h₀) (X : (hd10.heap_39 w.params).In h₀) (T : Top topProg loose10 mean mg mb h₀) (C : CodeHd base 138 134) (hdp : dp + 9 < recursionLimit) (hun : un + 200 < cLine) (F : Fr h₀ L s.heap m) :
    MkE w (errA dp un gd L outer) s (eval (nthE errElts 4) (errE L)) := by
  intro Q E h
  have hfill : PySem.Challenge.rw_dm0148_10.about = PySem.Challenge.rw_dm0148_10.about ∧ hd10.heap_39 = hd10.heap_39 := by k_fill; exact ⟨rfl, rfl⟩
  clear hfill
  have N : News h₀ L s.heap [] := fun p hp => nomatch hp
  conv in (eval _ _) => arg 1; whnf
  w_strict (k_steps)
  exact mk51 (s := ⟨s.heap, s.gens, s.drawn, s.toks + 1, s.os⟩) (gd := gd) (t2 := 0) B F X T C err_kind hdp hun _ _ h
set_option maxRecDepth 100000 in
set_option maxHeartbeats 2000000 in
theorem el_5 {w : World} {mean : ExcName → Option Value} {mg mb : Str → Option Value} {dp un : Nat} {gd : Option (List Code)} {outer : List Env} {A₀ : Around} {base h₀ : Heap} {L : Addr} {m : Str → Option Value} {s : Shared}
    (B : Below A₀ base outer h₀) (X : (hd10.heap_39 w.params).In h₀) (T : Top topProg loose10 mean mg mb h₀) (C : CodeHd base 138 134) (hdp : dp + 9 < recursionLimit) (hun : un + 200 < cLine) (F : Fr h₀ L s.heap m) :
    MkE w (errA dp un gd L outer) s (eval (nthE errElts 5) (errE L)) := by
  intro Q E h
  have hfill : PySem.Challenge.rw_dm0148_10.about = PySem.Challenge.rw_dm0148_10.about ∧ hd10.heap_39 = hd10.heap_39 := by k_fill; exact ⟨rfl, rfl⟩
  clear hfill
  have N : News h₀ L s.heap [] := fun p hp => nomatch hp
  conv in (eval _ _) => arg 1; whnf
  w_strict (k_steps)
  exact h _ _ _ _ (by assumption) (by assumption) (by assumption) (by assumption)
set_option maxRecDepth 100000 in
set_option maxHeartbeats 2000000 in
theorem el_6 {w : World} {mean : ExcName → Option Value} {mg mb : Str → Option Value} {dp un : Nat} {gd : Option (List Code)} {outer : List Env} {A₀ : Around} {base h₀ : Heap} {L : Addr} {m : Str → Option Value} {s : Shared}
    (B : Below A₀ base outer h₀) (X : (hd10.heap_39 w.params).In h₀) (T : Top topProg loose10 mean mg mb h₀) (C : CodeHd base 138 134) (hdp : dp + 9 < recursionLimit) (hun : un + 200 < cLine) (F : Fr h₀ L s.heap m) :
    MkE w (errA dp un gd L outer) s (eval (nthE errElts 6) (errE L)) := by
  intro Q E h
  have hfill : PySem.Challenge.rw_dm0148_10.about = PySem.Challenge.rw_dm0148_10.about ∧ hd10.heap_39 = hd10.heap_39 := by k_fill; exact ⟨rfl, rfl⟩
  clear hfill
  have N : News h₀ L s.heap [] := fun p hp => nomatch hp
  conv in (eval _ _) => arg 1; whnf
  w_strict (k_steps)
  exact h _ _ _ _ (by assumption) (by assumption) (by assumption) (by assumption)
set_option maxRecDepth 100000 in
set_option maxHeartbeats 2000000 in
theorem el_7 {w : World} {mean : ExcName → Option Value} {mg mb : Str → Option Value} {dp un : Nat} {gd : Option (List Code)} {outer : List Env} {A₀ : Around} {base h₀ : Heap} {L : Addr} {m : Str → Option Value} {s : Shared}
    (B : Below A₀ base outer h₀) (X : (hd10.heap_39 w.params).In h₀) (T : Top topProg loose10 mean mg mb h₀) (C : CodeHd base 138 134) (hdp : dp + 9 < recursionLimit) (hun : un + 200 < cLine) (F : Fr h₀ L s.heap m) :
    MkE w (errA dp un gd L outer) s (eval (nthE errElts 7) (errE L)) := by
  intro Q E h
  have hfill : PySem.Challenge.rw_dm0148_10.about = PySem.Challenge.rw_dm0148_10.about ∧ hd10.heap_39 = hd10.heap_39 := by k_fill; exact ⟨rfl, rfl⟩
  clear hfill
  have N : News h₀ L s.heap [] := fun p hp => nomatch hp
  conv in (eval _ _) => arg 1; whnf
  w_strict (k_steps)
  exact h _ _ _ _ (by assumption) (by assumption) (by assumption) (by assumption)
set_option maxRecDepth 100000 in
set_option maxHeartbeats 2000000 in
theorem el_8 {w : World} {mean : ExcName → Option Value} {mg mb : Str → Option Value} {dp un : Nat} {gd : Option (List Code)} {outer : List Env} {A₀ : Around} {base h₀ : Heap} {L : Addr} {m : Str → Option Value} {s : Shared}
    (B : Below A₀ base outer h₀) (X : (hd10.heap_39 w.params).In h₀) (T : Top topProg loose10 mean mg mb h₀) (C : CodeHd base 138 134) (hdp : dp + 9 < recursionLimit) (hun : un + 200 < cLine) (F : Fr h₀ L s.heap m) :
    MkE w (errA dp un gd L outer) s (eval (nthE errElts 8) (errE L)) := by
  intro Q E h
  have hfill : PySem.Challenge.rw_dm0148_10.about = PySem.Challenge.rw_dm0148_10.about ∧ hd10.heap_39 = hd10.heap_39 := by k_fill; exact ⟨rfl, rfl⟩
  clear hfill
  have N : News h₀ L s.heap [] := fun p hp => nomatch hp
  conv in (eval _ _) => arg 1; whnf
  w_strict (k_steps)
  exact h _ _ _ _ (by assumption) (by assumption) (by assumption) (by assumption)
set_option maxRecDepth 100000 in
set_option maxHeartbeats 2000000 in
theorem el_9 {w : World} {mean : ExcName → Option Value} {mg mb : Str → Option Value} {dp un : Nat} {gd : Option (List Code)} {outer : List Env} {A₀ : Around} {base h₀ : Heap} {L : Addr} {m : Str → Option Value} {s : Shared}
    (B : Below A₀ base outer h₀) (X : (hd10.heap_39 w.params).In h₀) (T : Top topProg loose10 mean mg mb h₀) (C : CodeHd base 138 134) (hdp : dp + 9 < recursionLimit) (hun : un + 200 < cLine) (F : Fr h₀ L s.heap m) :
    MkE w (errA dp un gd L outer) s (eval (nthE errElts 9) (errE L)) := by
  intro Q E h
  have hfill : PySem.Challenge.rw_dm0148_10.about = PySem.Challenge.rw_dm0148_10.about ∧ hd10.heap_39 = hd10.heap_39 := by k_fill; exact ⟨rfl, rfl⟩
  clear hfill
  have N : News h₀ L s.heap [] := fun p hp => nomatch hp
  conv in (eval _ _) => arg 1; whnf
  w_strict (k_steps)
  exact h _ _ _ _ (by assumption) (by assumption) (by assumption) (by assumption)
end Mine
end

-- ErrC10
section
theorem Mine.offErrC10 : True := by
  w_top off
  trivial
open PySem PySem.W PyProof.Rows PySem.Calls
set_option linter.unusedVariables false
namespace Mine
open Mine10
/-- what the ten are -/
def Goods (P : Params) (g h : Heap) (vs : List Value) : Prop := ∀ v ∈ vs, ∃ e oe, v = .ref e ∧ g.get? e = none ∧ h.get? e = some oe ∧ Good P oe e
theorem none_of {g h : Heap} {e : Addr} (k : Kp g h) (n : h.get? e = none) : g.get? e = none := by
  cases q : g.get? e with
  | none => rfl
  | some o => rw [k _ _ q] at n; cases n
theorem goods_spliced {w : World} {A : Around} {env : Env} {pos : Pos} {E : Value → Shared → Prop} {g : Heap} {L : Addr} {m : Str → Option Value} : ∀ (elts : List Expr) (s : Shared) (Q : List Value → Shared → Prop), Fr g L s.heap m → (∀ e ∈ elts, ∀ s', Fr g L s'.heap m → MkE w A s' (eval e env)) →
    starEach elts env = elts.map (fun e => (false, eval e env)) →
    (∀ vs h' tk', vs.length = elts.length → Kp s.heap h' → Goods w.params s.heap h' vs → Q vs { s with heap := h', toks := tk' }) → wpAny (model prog10 w) A (spliced (backTo pos (elts.map (fun e => (false, eval e env))))) Q E s
  | [], s, Q, F, hall, _, fin => spliced_nil (fin [] s.heap s.toks rfl (fun _ _ h => h) (fun v hv => nomatch hv))
  | e :: es, s, Q, F, hall, hst, fin => by
    refine Calls.spliced_cons (hall e (.head _) s F _ _ fun x oe h' tk' kp n hx G => ?_)
    refine goods_spliced es { s with heap := h', toks := tk' } _ (fr_kp F kp) (fun e' he' => hall e' (.tail _ he')) ?_ fun vs h2 tk2 hl kp2 gs => fin _ h2 tk2 (by simp [hl]) (fun b o hb => kp2 b o (kp b o hb)) fun v hv => ?_
    · have z : starEach (e :: es) env = (match starEach (e :: es) env with | a :: _ => a | [] => (false, eval e env)) :: starEach es env := by cases e <;> rfl
      rw [hst] at z
      exact (List.cons.inj z).2.symm
    · rcases List.mem_cons.mp hv with rfl | hv
      · exact ⟨x, oe, rfl, n, kp2 _ _ hx, G⟩
      · obtain ⟨e2, o2, r1, r2, r3, r4⟩ := gs v hv
        exact ⟨e2, o2, r1, none_of kp r2, r3, r4⟩
theorem elts_eq : errElts = [nthE errElts 0, nthE errElts 1, nthE errElts 2, nthE errElts 3, nthE errElts 4, nthE errElts 5, nthE errElts 6, nthE errElts 7, nthE errElts 8, nthE errElts 9] := by with_unfolding_all rfl
theorem elts_len : errElts.length = 10 := by with_unfolding_all rfl
theorem elts_star {env : Env} : starEach errElts env = errElts.map (fun e => (false, eval e env)) := by with_unfolding_all rfl
theorem elts_all {w : World} {mean : ExcName → Option Value} {mg mb : Str → Option Value} {dp un : Nat} {gd : Option (List Code)} {outer : List Env} {A₀ : Around} {base h₀ : Heap} {L : Addr} {m : Str → Option Value}
    (B : Below A₀ base outer h₀) (X : (hd10.heap_39 w.params).In h₀) (T : Top topProg loose10 mean mg mb h₀) (C : CodeHd base 138 134) (hdp : dp + 9 < recursionLimit) (hun : un + 200 < cLine) :
    ∀ e ∈ errElts, ∀ s', Fr h₀ L s'.heap m → MkE w (errA dp un gd L outer) s' (eval e (errE L)) := by
  intro e he s' F
  rw [elts_eq] at he
  simp only [List.mem_cons, List.not_mem_nil, or_false] at he
  rcases he with rfl | rfl | rfl | rfl | rfl | rfl | rfl | rfl | rfl | rfl
  · exact el_0 B X T C hdp hun F
  · exact el_1 B X T C hdp hun F
  · exact el_2 B X T C hdp hun F
  · exact el_3 B X T C hdp hun F
  · exact el_4 B X T C hdp hun F
  · exact el_5 B X T C hdp hun F
  · exact el_6 B X T C hdp hun F
  · exact el_7 B X T C hdp hun F
  · exact el_8 B X T C hdp hun F
  · exact el_9 B X T C hdp hun F
/-- the whole display -/
theorem errs_list {w : World} {mean : ExcName → Option Value} {mg mb : Str → Option Value} {dp un : Nat} {gd : Option (List Code)} {outer : List Env} {A₀ : Around} {base h₀ : Heap} {L : Addr} {m : Str → Option Value} {s : Shared} {Q E : Value → Shared → Prop} {pos : Pos}
    (B : Below A₀ base outer h₀) (X : (hd10.heap_39 w.params).In h₀) (T : Top topProg loose10 mean mg mb h₀) (C : CodeHd base 138 134) (hdp : dp + 9 < recursionLimit) (hun : un + 200 < cLine) (F : Fr h₀ L s.heap m)
    (fin : ∀ D vs h' tk', Fr h₀ L h' m → News h₀ L h' [(D, W.listOf (List.toArray vs) 0)] → vs.length = 10 → Kp s.heap h' → Goods w.params s.heap h' vs → Q (.ref D) { s with heap := h', toks := tk' }) :
    wpAny (model prog10 w) (errA dp un gd L outer) (eval (.List errElts pos) (errE L)) Q E s := by
  refine wpAny_List_spliced ?_
  rw [elts_star]
  refine goods_spliced errElts s _ F (elts_all B X T C hdp hun) elts_star fun vs h' tk' hl kp gs => ⟨by rw [hl, elts_len]; decide, ?_⟩
  have F1 := fr_kp F kp
  have N1 : News h₀ L h' [] := fun p hp => nomatch hp
  exact fin _ vs _ _ (F1.push _) (N1.push F1 _) (by rw [hl, elts_len]) (fun b o hb => Heap.get?_push_of_some _ (kp b o hb)) fun v hv => by
    obtain ⟨e, oe, r1, r2, r3, r4⟩ := gs v hv
    exact ⟨e, oe, r1, r2, Heap.get?_push_of_some _ r3, r4⟩
theorem err_retS : ∃ lp ne p1 p2, nthS errB 0 = .Return (some (.Subscript (.List errElts lp) ne p1)) p2 ∧ errB = [nthS errB 0] := ⟨_, _, _, _, by with_unfolding_all rfl, by with_unfolding_all rfl⟩
end Mine
end

-- ErrD10
section
theorem Mine.offErrD10 : True := by
  w_top off
  trivial
open PySem PySem.W PyProof.Rows PySem.Calls
set_option linter.unusedVariables false
namespace Mine
open Mine10
theorem ten_item {prog : Program} {w : World} {A : Around} {E : Value → Shared → Prop} {s : Shared} {h₀ : Heap} {L D : Addr} {news : List (Addr × Obj)} {vs : List Value} {k : Nat} {u : Tok} {value slice : Expr} {Q : Value → Shared → Prop} (N : News h₀ L s.heap news) (hm : (D, W.listOf (List.toArray vs) 0) ∈ news) (hl : vs.length = 10) (hk : k < 10) (h : ∀ v ∈ vs, Q v s)
    (hs : subscripted slice false (.ref D) (.int (k : Int) u) = operate [.ref D, .int (k : Int) u] (getItem (.ref D) (.int (k : Int) u))) : wpAny (model prog w) A (subscriptTail value slice (.ref D) (.int (k : Int) u)) Q E s := by
  have hL : s.heap.IsList D (List.toArray vs) := ⟨_, (N _ hm).1, rfl, 0, rfl⟩
  have hi : k < vs.length := by omega
  refine tail_any hL.typeIs slot_list_getitem.lookup (wpAny_getItem_list (x := vs[k]) hL (by omega) (by simp; omega) ?_ (h _ (List.getElem_mem hi))) hs
  simp [hi]
local macro_rules | `(tactic| walk_at "eval List") => `(tactic| (k_here; k_dflt (refine errs_list (by k_asm) (by k_asm) (by k_asm) (by k_asm) (by omega) (by omega) (by k_asm) ?_); intro D' vs' h' tk' F' N' hl' kp' gs'))
local macro_rules | `(tactic| walk_at "subscriptTail List Name ref int") => `(tactic| (k_here; k_dflt (refine ten_item (by k_asm) (by k_mem) (by assumption) (by assumption) ?_ (by with_unfolding_all rfl)); intro v' hv'))
set_option maxRecDepth 100000 in
set_option maxHeartbeats 2000000 in
theorem err_call {w : World} {mean : ExcName → Option Value} {mg mb : Str → Option Value} {dp un : Nat} {gd : Option (List Code)} {cn : Str} {cs : Scope} {a : Addr} {ccd : Value} {cl : List (Str × Addr)} {outer : List Env} {A₀ : Around} {base h₀ : Heap} {L : Addr} {m : Str → Option Value} {s : Shared} {t : Tok} {k : Nat}
    (B : Below A₀ base outer h₀) (F : Fr h₀ L s.heap m) (X : (hd10.heap_39 w.params).In h₀) (T : Top topProg loose10 mean mg mb h₀) (C : CodeHd base 138 134) (hk : cs.kind = .function) (hdp : dp + 19 < recursionLimit) (hun : un + 300 < cLine) (hk10 : k < 10) :
    MkE w (ktrTop dp un gd cn cs L a ccd cl outer) s (call (.ref 125) [.int (k : Int) t]) := by
  intro Q E fin
  have hfill : PySem.Challenge.rw_dm0148_10.about = PySem.Challenge.rw_dm0148_10.about ∧ hd10.heap_39 = hd10.heap_39 := by k_fill; exact ⟨rfl, rfl⟩
  clear hfill
  have N : News h₀ L s.heap [] := fun p hp => nomatch hp
  refine wpAny_call ?_
  k_dflt (refine' code_keep (A := ktrTop dp un gd cn cs L a ccd cl outer) B F X N T rfl rfl hk ?k6 ?k7 ?k8 ?k9 ?kB ?_ ?c2 ?c3 ?c4 ?c5; (case k6 => k_is); (case k7 => k_is); (case k8 => (show dp < recursionLimit; omega)); (case k9 => exact BindsTo.of_eq rfl); (case kB => exact locs rfl); (case c2 => exact rfl); (case c3 => exact rfl); (case c4 => exact rfl); (case c5 => decide); k_whole)
  intro g' L' h' gk' FG' F' N' B' X' T' l1
  clear l1
  (try dsimp only)
  show wpAny (model prog10 w) (errA (dp + 1) (un + 3) gd L' (envX cn cs L a ccd cl :: outer)) _ _ _ _
  w_strict (k_steps)
  rename_i D vs h2 tk2 F2 N2 hl kp gs
  refine ten_item (s := ⟨h2, _, _, _, _⟩) N2 (.head _) hl hk10 (fun v hv => ?_) (by with_unfolding_all rfl)
  obtain ⟨e, oe, rfl, n2, h2e, G⟩ := gs v hv
  have k0 : Kp s.heap h' := fun b o hb => F'.keep b o (gk' b o hb (List.not_mem_nil))
  refine leaveK_ F2 N2 fun kF kN => fin e oe h2 _ (fun b o hb => kp b o (k0 b o hb)) (none_of k0 n2) h2e G
end Mine
end

-- ItD10
section
theorem Mine.offItD10 : True := by
  w_top off
  trivial
open PySem PySem.W PyProof.Rows PySem.Calls
set_option linter.unusedVariables false
namespace Mine
open Mine10
def itDef : Stmt := nthS mainB 11
def itB : List Stmt := suite itDef
def itScope : Scope := scopeS itDef
def itFor : Stmt := nthS itB 3
def itT : List Stmt := suite itFor
abbrev itE (L : Addr) : Env := envOf (Str.ofString "_law_items") itScope L 132 (.ref 131)
abbrev itA (dp un : Nat) (gd : Option (List Code)) (L : Addr) (outer : List Env) : Around := ktrTop dp un gd (Str.ofString "_law_items") itScope L 132 (.ref 131) [] outer
theorem it_kind : itScope.kind = .function := by kernel_rfl
end Mine
end

-- ItI10
section
theorem Mine.offItI10 : True := by
  w_top off
  trivial
open PySem PySem.W PyProof.Rows PySem.Calls
set_option linter.unusedVariables false
namespace Mine
open Mine10
/-- octets of a line that ends no list -/
abbrev DotB (b : Array UInt8) : Prop := b.size ≤ 100 ∧ b ≠ #[13, 10] ∧ b ≠ #[10] ∧ b ≠ #[]
def NearOk (nl : List Value) : Prop := ∀ v ∈ nl, ∃ b t, v = .bytes b t ∧ DotB b
def items0 (tk : Tok) : List It := .op :: .dot #[32, 10] tk :: .dot #[13] (tk + 1) :: List.replicate 96 (.dot #[104, 58, 32, 105, 10] (tk + 1 + 1))
theorem items0_len (tk : Tok) : (items0 tk).length = 99 := by kernel_rfl
theorem items0_marks (tk : Tok) : marksOf (items0 tk) = Str.ofString "(.................................................................................................." := by kernel_rfl
abbrev mapI (m : Str → Option Value) (mk : Str) (mt : Tok) (it nr : Addr) : Str → Option Value := fun y => if y = Str.ofString "marks" then some (.str mk mt) else if y = Str.ofString "items" then some (.ref it) else if y = Str.ofString "near" then some (.ref nr) else m y
theorem nearOk8 {t1 t2 t3 t4 t5 t6 t7 t8 : Tok} : NearOk [.bytes #[97, 58, 32, 98, 13, 10] t1, .bytes #[32, 10] t2, .bytes #[13] t3, .bytes #[9, 13, 10] t4, .bytes #[13, 13, 10] t5, .bytes #[10, 10] t6, .bytes #[32] t7, .bytes #[0] t8] := by
  intro v hv
  simp only [List.mem_cons, List.not_mem_nil, or_false] at hv
  rcases hv with rfl | rfl | rfl | rfl | rfl | rfl | rfl | rfl <;> exact ⟨_, _, rfl, by decide⟩
theorem init_led {h₀ h : Heap} {L it nr : Addr} {p1 p2 p3 : Addr × Obj} {vs0 : Array Value} {tk t1 t2 t3 t4 t5 t6 t7 t8 : Tok} (e : vs0 = ((items0 tk).map It.val).toArray) (N : News h₀ L h [(it, W.listOf vs0 0), p1, p2, p3, (nr, W.listOf #[.bytes #[97, 58, 32, 98, 13, 10] t1, .bytes #[32, 10] t2, .bytes #[13] t3, .bytes #[9, 13, 10] t4, .bytes #[13, 13, 10] t5, .bytes #[10, 10] t6, .bytes #[32] t7, .bytes #[0] t8] 0)]) :
    News h₀ L h [(it, W.listOf ((items0 tk).map It.val).toArray 0), (nr, W.listOf (List.toArray [.bytes #[97, 58, 32, 98, 13, 10] t1, .bytes #[32, 10] t2, .bytes #[13] t3, .bytes #[9, 13, 10] t4, .bytes #[13, 13, 10] t5, .bytes #[10, 10] t6, .bytes #[32] t7, .bytes #[0] t8]) 0)] ∧ (List.length (α := Value) [.bytes #[97, 58, 32, 98, 13, 10] t1, .bytes #[32, 10] t2, .bytes #[13] t3, .bytes #[9, 13, 10] t4, .bytes #[13, 13, 10] t5, .bytes #[10, 10] t6, .bytes #[32] t7, .bytes #[0] t8] = 8) ∧ NearOk [.bytes #[97, 58, 32, 98, 13, 10] t1, .bytes #[32, 10] t2, .bytes #[13] t3, .bytes #[9, 13, 10] t4, .bytes #[13, 13, 10] t5, .bytes #[10, 10] t6, .bytes #[32] t7, .bytes #[0] t8] := by
  subst e
  refine ⟨fun p hp => N p ?_, rfl, nearOk8⟩
  rcases List.mem_cons.mp hp with rfl | hp
  · exact .head _
  · rcases List.mem_cons.mp hp with rfl | hp
    · exact .tail _ (.tail _ (.tail _ (.tail _ (.head _))))
    · cases hp
set_option maxRecDepth 100000 in
set_option maxHeartbeats 1000000 in
theorem it_init {w : World} {mean : ExcName → Option Value} {mg mb : Str → Option Value} {dp un : Nat} {gd : Option (List Code)} {outer : List Env} {A₀ : Around} {base h₀ : Heap} {L : Addr} {m : Str → Option Value} {s : Shared} {Q : Flow → Shared → Prop} {E : Value → Shared → Prop}
    (B : Below A₀ base outer h₀) (F : Fr h₀ L s.heap m) (X : (hd10.heap_39 w.params).In h₀) (T : Top topProg loose10 mean mg mb h₀) (N : News h₀ L s.heap [])
    (fin : ∀ it nr tk t nl h' tk', Fr h₀ L h' (mapI m (marksOf (items0 tk)) t it nr) → News h₀ L h' [(it, W.listOf ((items0 tk).map It.val).toArray 0), (nr, W.listOf (List.toArray nl) 0)] → nl.length = 8 → NearOk nl → @LT.lt Nat _ nr it → Q .next { s with heap := h', toks := tk' }) :
    wpAny (model prog10 w) (itA dp un gd L outer) (execs [nthS itB 0, nthS itB 1, nthS itB 2] (itE L)) Q E s := by
  have hfill : PySem.Challenge.rw_dm0148_10.about = PySem.Challenge.rw_dm0148_10.about ∧ hd10.heap_39 = hd10.heap_39 := by k_fill; exact ⟨rfl, rfl⟩
  clear hfill
  conv in (execs _ _) => arg 1; arg 1; whnf
  conv in (execs _ _) => arg 1; arg 2; arg 1; whnf
  conv in (execs _ _) => arg 1; arg 2; arg 2; arg 1; whnf
  w_strict (k_steps)
  rename Fr h₀ L _ _ => kF
  rename News h₀ L _ _ => kN
  have z := init_led (by with_unfolding_all rfl) kN
  rw [← items0_marks] at kF
  exact fin _ _ _ _ _ _ _ kF z.1 z.2.1 z.2.2 (by omega)
end Mine
end

-- LineD10
section
theorem Mine.offLineD10 : True := by
  w_top off
  trivial
open PySem PySem.W PyProof.Rows PySem.Calls
set_option linter.unusedVariables false
namespace Mine
open Mine10
theorem line_cell : ∀ x ∈ lineScope.names, x.2 ≠ .cell := by decide +kernel
theorem line_co : lineScope.isCoroutine = false := by kernel_rfl
theorem line_gen : lineScope.isGenerator = false := by kernel_rfl
theorem line_kind : lineScope.kind = .function := by kernel_rfl
theorem line_loc {v : Value} : ∀ x ∈ [(Str.ofString "limit", v)], lineScope.names.lookup x.1 = some .local := by
  intro x hx
  rw [List.mem_singleton.mp hx]
  kernel_rfl
theorem line_bind {nm q : Str} {cl : List (Str × Addr)} {doc pm ct v cdv : Value} {an : Option Addr} : bindArgs (fnX nm q linePar lineB lineScope cl .none .none doc pm an cdv ct) ⟨[v], []⟩ = pure [(Str.ofString "limit", v)] := by kernel_rfl
/-- the source's ledger: the place, the items, what stays -/
abbrev LD (P : Params) (it pl src tt ds lf lc c1 c2 c3 c4 : Addr) (o1 o2 o3 o4 oc fo : Obj) (tkk : Tok) (items : List It) (ni : Nat) (i : Nat) (t : Tok) (np : Nat) : List (Addr × Obj) :=
  (pl, W.listOf #[.int (i : Int) t] np) :: (it, W.listOf (items.map It.val).toArray ni) :: statL P src tt ds lf lc c1 c2 c3 c4 o1 o2 o3 o4 oc fo tkk
abbrev lineCl (c1 c2 c3 c4 : Addr) : List (Str × Addr) := [(Str.ofString "source", c4), (Str.ofString "place", c3), (Str.ofString "marks", c2), (Str.ofString "items", c1)]
theorem open_no {prog : Program} {w : World} {A : Around} {E : Value → Shared → Prop} {s : Shared} {Q : Value → Shared → Prop} {c : Nat} {t u : Tok} (hc : c ≠ 40) (h : Q (.bool false) s) : wpAny (model prog w) A (compareOp .Eq (.str ⟨#[c]⟩ t) (.str (Str.ofString "(") u)) Q E s := mark_no (d := 40) (by decide) hc h
theorem open_yes {prog : Program} {w : World} {A : Around} {E : Value → Shared → Prop} {s : Shared} {Q : Value → Shared → Prop} {c : Nat} {t u : Tok} (hc : c = 40) (h : Q (.bool true) s) : wpAny (model prog w) A (compareOp .Eq (.str ⟨#[c]⟩ t) (.str (Str.ofString "(") u)) Q E s := mark_yes (c := c) (by subst hc; decide) h
theorem bang_no {prog : Program} {w : World} {A : Around} {E : Value → Shared → Prop} {s : Shared} {Q : Value → Shared → Prop} {c : Nat} {t u : Tok} (hc : c ≠ 33) (h : Q (.bool false) s) : wpAny (model prog w) A (compareOp .Eq (.str ⟨#[c]⟩ t) (.str (Str.ofString "!") u)) Q E s := mark_no (d := 33) (by decide) hc h
theorem bang_yes {prog : Program} {w : World} {A : Around} {E : Value → Shared → Prop} {s : Shared} {Q : Value → Shared → Prop} {c : Nat} {t u : Tok} (hc : c = 33) (h : Q (.bool true) s) : wpAny (model prog w) A (compareOp .Eq (.str ⟨#[c]⟩ t) (.str (Str.ofString "!") u)) Q E s := mark_yes (c := c) (by subst hc; decide) h
/-- all but the place stays -/
abbrev KeepBut (pl : Addr) (h h' : Heap) : Prop := ∀ b o, h.get? b = some o → b ≠ pl → h'.get? b = some o
theorem keep_but {s : Shared} {news : List (Addr × Obj)} {g h₀ h' : Heap} {L L' pl : Addr} {m' : Str → Option Value} {rest : List (Addr × Obj)} {o : Obj} (gk : Gk s news g) (F' : Fr g L' h' m') (N : News h₀ L s.heap news) (N' : News g L' h' (( pl, o) :: rest)) (hsub : ∀ p ∈ news, p.1 = pl ∨ p ∈ rest) : KeepBut pl s.heap h' := by
  intro b ob hb hne
  by_cases hm : b ∈ news.map (·.1)
  · obtain ⟨p, hp, rfl⟩ := List.mem_map.mp hm
    rcases hsub p hp with e | hr
    · exact absurd e hne
    · have z := (N p hp).1
      rw [hb] at z
      cases z
      exact (N' p (.tail _ hr)).1
  · exact F'.keep b ob (gk b ob hb hm)
end Mine
end

-- Con10
section
theorem Mine.offCon10 : True := by
  w_top off
  trivial
open PySem PySem.W PyProof.Rows PySem.Calls
set_option linter.unusedVariables false
namespace Mine
open Mine10
/-- what lies in the heap as a thing told -/
inductive Lay (h : Heap) (P : Addr → Prop) : Nat → Value → Tr → Prop
  | leaf {d b t} : Lay h P d (.bytes b t) (.leaf b.toList)
  | node {d a vs n l} : P a → h.get? a = some (W.listOf (List.toArray vs) n) → vs.length = l.length → (∀ (j : Nat) v t, vs[j]? = some v → l[j]? = some t → Lay h P d v t) → Lay h P (d + 1) (.ref a) (.node l)
theorem Lay.imp {h : Heap} {P P' : Addr → Prop} (k : ∀ a, P a → P' a) : ∀ {d v t}, Lay h P d v t → Lay h P' d v t := by
  intro d v t L
  induction L with
  | leaf => exact .leaf
  | node hp ha hl _ ih => exact .node (k _ hp) ha hl ih
theorem Lay.more {h : Heap} {P : Addr → Prop} : ∀ {d v t}, Lay h P d v t → ∀ {d'}, d ≤ d' → Lay h P d' v t := by
  intro d v t L
  induction L with
  | leaf => intro d' _; exact .leaf
  | node hp ha hl _ ih =>
    intro d' hd
    obtain ⟨e, rfl⟩ : ∃ e, d' = e + 1 := ⟨d' - 1, by omega⟩
    exact .node hp ha hl fun j v t h1 h2 => ih j v t h1 h2 (by omega)
/-- the ledger that a thing told rests on -/
def Rests (own : List (Addr × Obj)) (P : Addr → Prop) (d : Nat) (v : Value) (t : Tr) : Prop := ∀ h' : Heap, (∀ p ∈ own, h'.get? p.1 = some p.2) → Lay h' P d v t
theorem Rests.sub {own own' : List (Addr × Obj)} {P : Addr → Prop} {d : Nat} {v : Value} {t : Tr} (x : Rests own P d v t) (h : ∀ p ∈ own, p ∈ own') : Rests own' P d v t := fun h' k => x h' fun p hp => k p (h p hp)
theorem lay_rests {h : Heap} {P : Addr → Prop} : ∀ {d v t}, Lay h P d v t → ∃ own : List (Addr × Obj), (∀ p ∈ own, h.get? p.1 = some p.2 ∧ P p.1) ∧ Rests own P d v t ∧ (∀ a, v = .ref a → ∃ vs n, (a, W.listOf (List.toArray vs) n) ∈ own ∧ ∀ l, t = .node l → vs.length = l.length) := by
  intro d v t L
  induction L with
  | leaf => exact ⟨[], (fun p hp => nomatch hp), fun _ _ => .leaf, fun a e => nomatch e⟩
  | @node d a vs n l hp ha hl hall ih =>
    have ch : ∀ j : Nat, ∃ own : List (Addr × Obj), (∀ p ∈ own, h.get? p.1 = some p.2 ∧ P p.1) ∧ ∀ v t, vs[j]? = some v → l[j]? = some t → Rests own P d v t := by
      intro j
      cases h1 : vs[j]? with
      | none => exact ⟨[], (fun p hp => nomatch hp), fun v t e => nomatch e⟩
      | some v =>
        cases h2 : l[j]? with
        | none => exact ⟨[], (fun p hp => nomatch hp), fun v t _ e => nomatch e⟩
        | some t =>
          obtain ⟨own, o1, o2, _⟩ := ih j v t h1 h2
          refine ⟨own, o1, fun v' t' e1 e2 => ?_⟩
          cases e1; cases e2
          exact o2
    obtain ⟨f, hf⟩ := Classical.axiomOfChoice ch
    refine ⟨(a, W.listOf (List.toArray vs) n) :: (List.range vs.length).flatMap f, fun p hp' => ?_, fun h' k => ?_, fun a' e => ?_⟩
    · rcases List.mem_cons.mp hp' with rfl | hp'
      · exact ⟨ha, hp⟩
      · obtain ⟨j, _, hj⟩ := List.mem_flatMap.mp hp'
        exact (hf j).1 p hj
    · refine .node hp (k _ (.head _)) hl fun j v t h1 h2 => (hf j).2 v t h1 h2 h' fun p hp' => k p (.tail _ (List.mem_flatMap.mpr ⟨j, ?_, hp'⟩))
      exact List.mem_range.mpr (List.getElem?_eq_some_iff.mp h1).1
    · cases e
      exact ⟨vs, n, .head _, fun l' e => by cases e; exact hl⟩
/-- the source -/
structure SP where
  (it pl src tt ds lf lc c1 c2 c3 c4 : Addr)
  (o1 o2 o3 o4 oc fo : Obj)
  (tkk mt : Tok)
  (q : Str)
  (items : List It)
  (ni : Nat)
abbrev SP.led (S : SP) (P : Params) (i : Nat) (t : Tok) (np : Nat) : List (Addr × Obj) := LD P S.it S.pl S.src S.tt S.ds S.lf S.lc S.c1 S.c2 S.c3 S.c4 S.o1 S.o2 S.o3 S.o4 S.oc S.fo S.tkk S.items S.ni i t np
structure SP.Ok (S : SP) (P : Params) : Prop where
  d1 : S.o1.data = .cell (some (.ref S.it))
  d2 : S.o2.data = .cell (some (.str (marksOf S.items) S.mt))
  d3 : S.o3.data = .cell (some (.ref S.pl))
  d4 : S.o4.data = .cell (some (.ref S.src))
  LF : LineFn S.fo S.oc S.lc S.c1 S.c2 S.c3 S.c4 S.q
  hq : AllNq S.pl (statL P S.src S.tt S.ds S.lf S.lc S.c1 S.c2 S.c3 S.c4 S.o1 S.o2 S.o3 S.o4 S.oc S.fo S.tkk)
  hip : @LT.lt Nat _ S.it S.pl
  hlen : S.items.length ≤ 1000
  small : ∀ (i : Nat) b t, S.items[i]? = some (It.dot b t) ∨ S.items[i]? = some (It.blank b t) → b.size ≤ 100
  dot : ∀ (i : Nat) b t, S.items[i]? = some (It.dot b t) → b ≠ #[13, 10] ∧ b ≠ #[10] ∧ b ≠ #[]
  eled : ∀ (j : Nat) e, S.items[j]? = some (It.err e) → ∀ p ∈ S.led P 0 0 0, p.1 ≠ e
  blank : ∀ (i : Nat) b t, S.items[i]? = some (It.blank b t) → b = #[13, 10] ∨ b = #[10]
def It.isOp : It → Bool
  | .op => true
  | _ => false
def opens (items : List It) (i : Nat) : Nat := (items.drop i).countP It.isOp
theorem opens_le {items : List It} {i j : Nat} (h : i ≤ j) : opens items j ≤ opens items i := by
  unfold opens
  have e : items.drop j = (items.drop i).drop (j - i) := by rw [List.drop_drop]; congr 1; omega
  rw [e]
  exact (List.drop_sublist _ _).countP_le
theorem opens_op {items : List It} {i : Nat} (h : items[i]? = some .op) : opens items i = opens items (i + 1) + 1 := by
  unfold opens
  obtain ⟨hi, e⟩ := List.getElem?_eq_some_iff.mp h
  rw [List.drop_eq_getElem_cons hi, e, List.countP_cons]
  rfl
/-- what is known of the exception that ends a reading -/
def ExcOf (o : Out) (h : Heap) (h' : Heap) (P : Params) (e : Addr) (cls a0 : Value) : Prop :=
  match o with
  | .ok _ _ => False
  | .err e' _ => e = e' ∧ ∃ oe, h.get? e = some oe ∧ Pris P oe e cls a0
  | .many _ => h.get? e = none ∧ cls = .ref 31 ∧ ∃ t u, a0 = .ref t ∧ h'.TupAt t [.str (Str.ofString "got more than 100 headers") u]
/-- the exceptions from place `i` on were never raised -/
def Fresh (S : SP) (P : Params) (h : Heap) (i : Nat) : Prop := ∀ (j : Nat) e, i ≤ j → S.items[j]? = some (It.err e) → ∃ oe cls a0, h.get? e = some oe ∧ Pris P oe e cls a0
/-- a call of the reader at place `i` -/
def ReadC (w : World) (S : SP) (i : Nat) (o : Out) : Prop :=
  ∀ (mean : ExcName → Option Value) (mg mb : Str → Option Value) (dp un : Nat) (gd : Option (List Code)) (cn : Str) (cs : Scope) (a : Addr) (ccd : Value) (cl : List (Str × Addr)) (outer : List Env) (A₀ : Around) (base h₀ : Heap) (L : Addr) (m : Str → Option Value) (s : Shared) (Q E : Value → Shared → Prop) (t : Tok) (np : Nat),
    Below A₀ base outer h₀ → Fr h₀ L s.heap m → (hd10.heap_39 w.params).In h₀ → Top topProg loose10 mean mg mb h₀ → cs.kind = .function → CodeHd base 138 134 → News h₀ L s.heap (S.led w.params i t np) →
    dp + 2 * opens S.items i + 8 < recursionLimit → un + 8 * opens S.items i + 200 < cLine → Fresh S w.params s.heap i →
    (∀ l a', o = .ok l a' → ∀ r h' t' np' tk', Fr h₀ L h' m → News h₀ L h' (S.led w.params a' t' np') → KeepBut S.pl s.heap h' → Lay h' (fun a => s.heap.get? a = none) (opens S.items i + 1) (.ref r) (.node l) → Q (.ref r) { s with heap := h', toks := tk' }) →
    (∀ e cls a0 h' tk', ExcOf o s.heap h' w.params e cls a0 → ExcP S.pl (envX cn cs L a ccd cl :: outer) s.heap h₀ L m o.pos e cls a0 h' → E (.ref e) { s with heap := h', toks := tk' }) →
    wpAny (model prog10 w) (ktrTop dp un gd cn cs L a ccd cl outer) (call (.ref 21) [.ref S.src]) Q E s
end Mine
namespace Mine
open PySem PySem.W PyProof.Rows PySem.Calls Mine10
theorem pass_frame {M : Model} {A : Around} {E : Value → Shared → Prop} {s' : Shared} {Q : Unit → Shared → Prop} {env env' : Env} {outer : List Env} {L L' pl e : Addr} {h h1 h₀ g : Heap} {m m1 : Str → Option Value} {i : Nat} {cls a0 : Value}
    (hfr : A.frames = some (env' :: env :: outer)) (hf' : env'.frame = some L') (EP : ExcP pl (env' :: env :: outer) h1 g L' m1 i e cls a0 s'.heap) (FG : Fr h₀ L g m) (kb : KeepBut pl h h1) (hb : ∀ b o, h.get? b = some o → b ≠ L')
    (hQ : ∀ h3, ExcP pl (env :: outer) h h₀ L m i e cls a0 h3 → s'.heap.UpToSlots h3 → Q () { s' with heap := h3 }) : wpAny M A (leaving env' (.ref e)) Q E s' := by
  obtain ⟨Bh, g₂, t3, np3, fl, hk, hpl, F2, up⟩ := EP
  refine wpAny_leaves_onW hfr hf' fl fun h3 fl3 up3 => hQ h3 ⟨Bh, g, t3, np3, fl3, fun b o ho h1' h2 h3' => hk b o (kb b o ho h1') h1' h2 fun hm => ?_, hpl, FG, ((Heap.UpToSlots.of_keeps F2.keep).trans up).trans up3⟩ up3
  rw [List.filterMap_cons, hf'] at hm
  rcases List.mem_cons.mp hm with z | z
  · exact hb b o ho z
  · exact h3' z
theorem ExcOf.slots {o : Out} {h h1 h2 h3 : Heap} {P : Params} {e pl : Addr} {cls a0 : Value} (x : ExcOf o h1 h2 P e cls a0) (kb : KeepBut pl h h1) (hfr : ∀ e' a, o = .err e' a → ∃ oe, h.get? e' = some oe ∧ e' ≠ pl) (hnew : h1.get? pl ≠ none) (up : h2.UpToSlots h3) : ExcOf o h h3 P e cls a0 := by
  cases o with
  | ok l a => exact x
  | err e' a =>
    obtain ⟨rfl, oe, h1', p⟩ := x
    obtain ⟨oe', q1, q2⟩ := hfr _ _ rfl
    have z := kb _ _ q1 q2
    rw [h1'] at z
    cases z
    exact ⟨rfl, oe, q1, p⟩
  | many a =>
    obtain ⟨x1, x2, t, u, x3, x4⟩ := x
    refine ⟨?_, x2, t, u, x3, x4.of_slots up⟩
    cases q : h.get? e with
    | none => rfl
    | some oe =>
      by_cases c : e = pl
      · subst c; exact absurd x1 hnew
      · rw [kb _ _ q c] at x1; cases x1
theorem fresh_keeps {S : SP} {P : Params} {h h' : Heap} {i i' : Nat} (x : Fresh S P h i) (kb : KeepBut S.pl h h') (hp : ∃ j t np, h.get? S.pl = some (W.listOf #[.int j t] np)) (hi : i ≤ i') : Fresh S P h' i' := by
  intro j e hj he
  obtain ⟨oe, cls, a0, h1, p⟩ := x j e (by omega) he
  refine ⟨oe, cls, a0, kb _ _ h1 fun z => ?_, p⟩
  obtain ⟨j, t, np, hp⟩ := hp
  obtain ⟨vs, _, hd, _⟩ := p.ob
  rw [z, hp] at h1
  cases h1
  cases hd
theorem fresh_ne {S : SP} {P : Params} {h : Heap} {i j : Nat} {e : Addr} (x : Fresh S P h i) (hp : ∃ j t np, h.get? S.pl = some (W.listOf #[.int j t] np)) (hi : i ≤ j) (he : S.items[j]? = some (It.err e)) : e ≠ S.pl := by
  intro z
  obtain ⟨oe, cls, a0, h1, p⟩ := x j e hi he
  obtain ⟨j, t, np, hp⟩ := hp
  obtain ⟨vs, _, hd, _⟩ := p.ob
  rw [z, hp] at h1
  cases h1
  cases hd
theorem rd_err {items : List It} {i : Nat} {acc : List Tr} {o : Out} (h : RD items i acc o) : ∀ e a, o = .err e a → ∃ j, i ≤ j ∧ items[j]? = some (It.err e) := by
  induction h with
  | dot _ _ _ ih => exact fun e a z => let ⟨j, h1, h2⟩ := ih e a z; ⟨j, by omega, h2⟩
  | err h1 => intro e a z; cases z; exact ⟨_, Nat.le_refl _, h1⟩
  | op _ hr _ _ _ ih =>
    have hlt := rd_lt hr
    intro e a z
    obtain ⟨j, h1, h2⟩ := ih e a z
    refine ⟨j, Nat.le_trans (Nat.le_of_lt (Nat.lt_trans (Nat.lt_succ_self _) hlt)) h1, h2⟩
  | opOut _ _ _ ih => exact fun e a z => let ⟨j, h1, h2⟩ := ih e a z; ⟨j, by omega, h2⟩
  | _ => intro e a z; cases z
end Mine
end

-- Meth10
section
theorem Mine.offMeth10 : True := by
  w_top off
  trivial
open PySem PySem.W PyProof.Rows PySem.Spec PySem.Calls
set_option maxRecDepth 100000
set_option linter.unusedVariables false
namespace Mine
open Mine10
theorem ga_canon : (Manifest.canonical "BaseException.__getattribute__" != "object.__getattribute__") = false := by decide +kernel
section
variable {prog : Program} {w : World} {A : Around} {E : Value → Shared → Prop} {s : Shared} {K : Frag} {x C L : Addr} {cd : ClassData} {ox : Obj} {od : Option Obj} {name : Str}
theorem exc_method {v : Value} {pl : Sem Bool} {Q : Value × List Value → Shared → Prop} (X : K.In s.heap) (I : InstAt s.heap x ox C od) (S : ExcGet K C cd) (hf : findObj K C od name = some (.value v)) (hh : handedIn v = true) (hn : findIn K (.ref C) name = some none)
    (h : Q (v, []) { s with toks := s.toks + 1 }) : wpAny (model prog w) A (getMethod (.ref x) name pl) Q E s := by
  have L0 := I.type (M := model prog w)
  have L1 := looks_findIn (M := model prog w) X S.ga
  have L2 := looks_findIn (M := model prog w) X S.hook
  have L3 := looks_findIn (M := model prog w) X hn
  unfold getMethod specialOf
  refine wpAny_bind (wpAny_bind (L0.here ?_))
  refine L1.here ?_
  dsimp only
  rw [ga_canon]
  simp only [Bool.false_eq_true, if_false]
  refine wpAny_bind (wpAny_bind (L0.here (L2.here ?_)))
  simp only [Option.isSome_none, Bool.false_eq_true, if_false]
  refine wpAny_bind (wpAny_bind (L0.here (L3.here ?_)))
  dsimp only
  exact wpAny_bind (exc_get_value X I S hf hh (wpAny_pure h))
end
theorem fn_at {h₀ h : Heap} {L lf lc c1 c2 c3 c4 : Addr} {fo oc : Obj} {q : Str} {news : List (Addr × Obj)} (LF : LineFn fo oc lc c1 c2 c3 c4 q) (N : News h₀ L h news) (hm : (lf, fo) ∈ news) : FnAt lf h := by
  obtain ⟨doc, pm, ct, hd⟩ := LF.fn
  obtain ⟨oc', od, dt, sl⟩ := fo
  dsimp only at hd
  subst hd
  exact ⟨_, _, _, _, (N _ hm).1⟩
theorem findRl (P : Params) (hs : Int) (tk : Tok) (v : Value) : findObj (hd10.heap_39 P) 31 (some (dictOf [⟨hs, .str (Str.ofString "readline") tk, v⟩] 1)) (Str.ofString "readline") = some (.value v) := by kernel_rfl
theorem lookRl (P : Params) : findIn (hd10.heap_39 P) (.ref 31) (Str.ofString "readline") = some none := by kernel_rfl
theorem rl_method {prog : Program} {w : World} {A : Around} {E : Value → Shared → Prop} {s : Shared} {h₀ : Heap} {L src tt ds lf : Addr} {m : Str → Option Value} {news : List (Addr × Obj)} {hs : Int} {tk : Tok} {pl : Sem Bool} {Q : Value × List Value → Shared → Prop}
    (F : Fr h₀ L s.heap m) (X : (hd10.heap_39 w.params).In h₀) (N : News h₀ L s.heap news) (h1 : (src, excObjD 31 tt ds) ∈ news) (h2 : (ds, dictOf [⟨hs, .str (Str.ofString "readline") tk, .ref lf⟩] 1) ∈ news) (h : Q (.ref lf, []) { s with toks := s.toks + 1 }) :
    wpAny (model prog w) A (getMethod (.ref src) (Str.ofString "readline") pl) Q E s :=
  exc_method (od := some _) (X.keeps F.keep) ⟨(N _ h1).1, rfl, rfl, (N _ h2).1⟩ (get31 _) (findRl _ hs tk _) rfl (lookRl _) h
end Mine
end

-- EqB10
section
theorem Mine.offEqB10 : True := by
  w_top off
  trivial
open PySem PySem.W PyProof.Rows PySem.Spec PySem.Calls PySem.SeqAt
set_option maxRecDepth 100000
set_option linter.unusedVariables false
namespace Mine
open Mine10
section
variable {A : Around} {s : Shared}
theorem eqAt_bytes (b c : Array UInt8) (t u : Tok) : EqAt A s (.bytes b t) (.bytes c u) (b.toList == c.toList) := fun prog w E Q h => by
  unfold eqBool
  refine wpAny_holding ?_
  refine wpAny_ite_split (fun hab => ?_) (fun _ => ?_)
  · have e := eq_of_beq hab
    cases e
    rw [beq_self_eq_true] at h
    exact wpAny_bind (wpAny_rule (wpAny_pure h))
  · exact wpAny_bind (PySem.W.eq_bytes (wpAny_truthy_bool h))
theorem list_eq_declines_bytes (l : Addr) (items : Array Value) (n : Nat) (dd : Option Addr) (sl : Array (Option Value)) (b : Array UInt8) (u : Tok) :
    Meets (Builtin.«list.__eq__» ⟨[.ref l, .bytes b u], []⟩) (fun _ R s => s.heap.get? l = some { cls := .type "list", dict := dd, data := .seq items n, slots := sl } ∧ R (.ok (.ret .notImplemented)) s) :=
  .of_wp fun prog w A R s h => by obtain ⟨hp, g, d, tk, os⟩ := s; obtain ⟨hl, h⟩ := h; have f1 := PySem.F.sub_bytes_list; wp_walk using wpAny_loadPart' hl; exact ⟨_, rfl, h⟩
theorem bytes_eq_declines_list (l : Addr) (items : Array Value) (n : Nat) (dd : Option Addr) (sl : Array (Option Value)) (b : Array UInt8) (u : Tok) :
    Meets (Builtin.«bytes.__eq__» ⟨[.bytes b u, .ref l], []⟩) (fun _ R s => s.heap.get? l = some { cls := .type "list", dict := dd, data := .seq items n, slots := sl } ∧ R (.ok (.ret .notImplemented)) s) :=
  .of_wp fun prog w A R s h => by
    obtain ⟨hl, h⟩ := h
    show wpAny _ _ (isInstance (.ref l) (.type "bytes") >>= fun r => _) _ _ s
    refine wpAny_bind (wpAny_isInstance (T := "list") (b := false) ⟨_, hl, rfl⟩ PySem.F.sub_list_bytes ?_)
    first
      | exact wpAny_bind (wpAny_rule (wpAny_bind (wpAny_pure (wpAny_pure ⟨_, rfl, h⟩))))
      | exact wpAny_bind (wpAny_rule (wpAny_pure ⟨_, rfl, h⟩))
      | exact wpAny_rule (wpAny_pure ⟨_, rfl, h⟩)
      | exact wpAny_pure ⟨_, rfl, h⟩
theorem rcAt_bytes_list {l : Addr} {items : Array Value} (b : Array UInt8) (u : Tok) (hl : s.heap.IsList l items) (hu : A.units < cLine) : RcAt A s (.bytes b u) (.ref l) false := fun prog w E Q h => by
  obtain ⟨⟨cls, dd, data, sl⟩, ho, hc, n, hd⟩ := id hl
  simp only at hc hd
  subst hc hd
  exact rc_eq_decline_or (k := false) (typeIs_bytes s b u) ⟨_, ho, rfl⟩ (by decide) PySem.F.sub_list_bytes FB.slot_bytes_eq F.slot_list_eq_refl
    (fun _ hq => call_meets FB.slot_bytes_eq (typeIs_bytes s b u) FB.entry_bytes_eq (FB.args_bytes_eq_2 _ _) (bytes_eq_declines_list l items n dd sl b u) ⟨ho, hq⟩)
    (fun _ hq => call_meets F.slot_list_eq_refl ⟨_, ho, rfl⟩ F.entry_list_eq (F.args_list_eq_2 _ _) (list_eq_declines_bytes l items n dd sl b u) ⟨ho, hq⟩)
    (fun _ hq => wpAny_of_eq (rfl : isSame (.bytes b u) (.ref l) = pure false) hq) (.inr hu) h
theorem eqAt_bytes_list {l : Addr} {items : Array Value} (b : Array UInt8) (u : Tok) (hl : s.heap.IsList l items) (hu : A.units < cLine) : EqAt A s (.bytes b u) (.ref l) false := fun prog w E Q h => by
  unfold eqBool
  refine wpAny_holding ?_
  refine wpAny_ite_split (fun hab => absurd (eq_of_beq hab) nofun) (fun _ => ?_)
  exact wpAny_bind (rcAt_bytes_list b u hl hu prog w E _ (wpAny_truthy_bool h))
theorem in_blank_bytes {prog : Program} {w : World} {E : Value → Shared → Prop} {Q : Value → Shared → Prop} {ta : Addr} {t1 t2 t3 t : Tok} {b : Array UInt8} {stop : Bool} (ht : IsTup s.heap ta #[.bytes #[13, 10] t1, .bytes #[10] t2, .bytes #[] t3])
    (hs : stop = (decide (b = #[13, 10]) || decide (b = #[10]) || decide (b = #[]))) (h : Q (.bool stop) s) : wpAny (model prog w) A (compareOp .In (.bytes b t) (.ref ta)) Q E s := by
  refine in_tupleAt (e := fun y => match y with | .bytes c _ => c.toList == b.toList | _ => false) ht (fun y hy => ?_) ?_
  · simp only [List.mem_toArray, List.mem_cons, List.not_mem_nil, or_false] at hy
    rcases hy with rfl | rfl | rfl <;> exact eqAt_bytes _ _ _ _
  · have e : (#[Value.bytes #[13, 10] t1, .bytes #[10] t2, .bytes #[] t3].any fun y => match y with | .bytes c _ => c.toList == b.toList | _ => false) = stop := by
      rw [hs]
      obtain ⟨l⟩ := b
      have k : ∀ c : List UInt8, (c == l) = decide ((⟨l⟩ : Array UInt8) = ⟨c⟩) := fun c => by
        by_cases z : c = l
        · subst z; simp
        · simp [z, Ne.symm z]
      have k1 := k [13, 10]
      have k2 := k [10]
      have k3 := k []
      simp only [List.any_toArray, List.any_cons, List.any_nil, Bool.or_false]
      rw [k1, k2, k3, Bool.or_assoc]
    rw [e]
    exact h
theorem in_blank_list {prog : Program} {w : World} {E : Value → Shared → Prop} {Q : Value → Shared → Prop} {ta r : Addr} {t1 t2 t3 : Tok} {items : Array Value} (ht : IsTup s.heap ta #[.bytes #[13, 10] t1, .bytes #[10] t2, .bytes #[] t3])
    (hr : s.heap.IsList r items) (hu : A.units + 20 < cLine) (h : Q (.bool false) s) : wpAny (model prog w) A (compareOp .In (.ref r) (.ref ta)) Q E s := by
  refine in_tupleAt (e := fun _ => false) ht (fun y hy => ?_) ?_
  · simp only [List.mem_toArray, List.mem_cons, List.not_mem_nil, or_false] at hy
    have hu' : A.in1.units < cLine := by simp only [units_in1]; omega
    rcases hy with rfl | rfl | rfl <;> exact eqAt_bytes_list _ _ hr hu'
  · have e : (#[Value.bytes #[13, 10] t1, .bytes #[10] t2, .bytes #[] t3].any fun _ => false) = false := by simp
    rw [e]
    exact h
end
end Mine
end

-- Rest10
section
theorem Mine.offRest10 : True := by
  w_top off
  trivial
open PySem PySem.W PyProof.Rows PySem.Calls
set_option linter.unusedVariables false
namespace Mine
open Mine10
def readDef : Stmt := nthS mainB 3
def readB : List Stmt := suite readDef
def readScope : Scope := scopeS readDef
def readWhile : Stmt := nthS readB 1
def turnB : List Stmt := suite readWhile
abbrev readE (L : Addr) : Env := envOf (Str.ofString "_read_headers") readScope L 21 (.ref 20)
/-- the source's ledger with a tail -/
abbrev LDo (P : Params) (it pl src tt ds lf lc c1 c2 c3 c4 : Addr) (o1 o2 o3 o4 oc fo : Obj) (tkk : Tok) (items : List It) (ni : Nat) (i : Nat) (t : Tok) (np : Nat) (own : List (Addr × Obj)) : List (Addr × Obj) :=
  (pl, W.listOf #[.int (i : Int) t] np) :: (it, W.listOf (items.map It.val).toArray ni) :: (ds, dictOf [⟨PyData.keyHash P (Str.ofString "readline"), .str (Str.ofString "readline") tkk, .ref lf⟩] 1) :: (lf, fo) :: (lc, oc) :: (src, excObjD 31 tt ds) :: (tt, tupObj []) :: (c4, o4) :: (c3, o3) :: (c2, o2) :: (c1, o1) :: own
local macro_rules | `(tactic| k_all) => `(tactic| exact NeAll.out (by assumption))
theorem list_led {h₀ h : Heap} {L : Addr} {news : List (Addr × Obj)} {l : Addr} {vs : List Value} {n : Nat} (N : News h₀ L h news) (hm : (l, W.listOf vs.toArray n) ∈ news) : h.IsList l vs.toArray := ⟨_, N.get hm, rfl, n, rfl⟩
theorem room20 {dp un : Nat} {gd : Option (List Code)} {cn : Str} {cs : Scope} {L a : Addr} {ccd : Value} {cl : List (Str × Addr)} {outer : List Env} (h : un + 100 < cLine) : (ktrTop dp un gd cn cs L a ccd cl outer).units + 20 < cLine := by show un + 20 < cLine; omega
theorem len_push {prog : Program} {w : World} {A : Around} {E : Value → Shared → Prop} {s : Shared} {h₀ : Heap} {L : Addr} {news : List (Addr × Obj)} {l : Addr} {vs : List Value} {x : Value} {n : Nat} {Q : Value → Shared → Prop} (N : News h₀ L s.heap news) (hm : (l, W.listOf (vs ++ [x]).toArray n) ∈ news) (hlen : vs.length ≤ 1000) (h : Q (.int ((vs.length : Int) + 1) (s.toks + 1)) { s with toks := s.toks + 1 + 1 }) : wpAny (model prog w) A (call (.builtin "len") [.ref l]) Q E s := by
  have e : (List.toArray (vs ++ [x])).size = vs.length + 1 := by simp
  refine len_list (items := (vs ++ [x]).toArray) ⟨_, N.get hm, rfl, n, rfl⟩ (by rw [e]; omega) ?_
  rw [e]
  exact h
theorem len_led {prog : Program} {w : World} {A : Around} {E : Value → Shared → Prop} {s : Shared} {h₀ : Heap} {L : Addr} {news : List (Addr × Obj)} {l : Addr} {vs : List Value} {n : Nat} {Q : Value → Shared → Prop} (N : News h₀ L s.heap news) (hm : (l, W.listOf vs.toArray n) ∈ news) (hlen : vs.length ≤ 1000) (h : Q (.int (vs.length : Int) (s.toks + 1)) { s with toks := s.toks + 1 + 1 }) : wpAny (model prog w) A (call (.builtin "len") [.ref l]) Q E s := by
  have e : (List.toArray vs).size = vs.length := by simp
  refine len_list (items := vs.toArray) ⟨_, N.get hm, rfl, n, rfl⟩ (by rw [e]; omega) ?_
  rw [e]
  exact h
local macro_rules | `(tactic| walk_at "call builtin:len") => `(tactic| (k_here; k_dflt (first | (refine len_push (by k_asm) (by k_mem) (by omega) ?_; k_whole) | (refine len_led (by k_asm) (by repeat (first | assumption | refine List.Mem.tail _ ?_)) (by omega) ?_; k_whole))))
local macro_rules | `(tactic| walk_at "compareOp In bytes ref") => `(tactic| (k_here; k_dflt (refine in_blank_bytes (by exact tup_news (by k_asm) (by k_mem)) (by assumption) ?_; k_whole)))
local macro_rules | `(tactic| walk_at "compareOp In ref ref") => `(tactic| (k_here; k_dflt (refine in_blank_list (by exact tup_news (by k_asm) (by k_mem)) (by exact list_led (by k_asm) (by (repeat (first | assumption | refine List.Mem.tail _ ?_)))) (by exact room20 (by assumption)) ?_; k_whole)))
set_option maxRecDepth 100000 in
set_option maxHeartbeats 2000000 in
theorem rest_dot {w : World} {mean : ExcName → Option Value} {mg mb : Str → Option Value} {dp un : Nat} {gd : Option (List Code)} {outer : List Env} {A₀ : Around} {base h₀ : Heap} {L : Addr} {m : Str → Option Value} {s : Shared} {Q : Flow → Shared → Prop} {E : Value → Shared → Prop}
    {it pl src tt ds lf lc c1 c2 c3 c4 hd : Addr} {o1 o2 o3 o4 oc fo : Obj} {tkk mt : Tok} {q : Str} {items : List It} {ni np nh : Nat} {i : Nat} {t t9 : Tok} {vs : List Value} {own : List (Addr × Obj)} {b : Array UInt8} {tb : Tok}
    (B : Below A₀ base outer h₀) (F : Fr h₀ L s.heap (fun y => if y = Str.ofString "line" then some (.bytes b tb) else if y = Str.ofString "headers" then some (.ref hd) else m y)) (X : (hd10.heap_39 w.params).In h₀) (T : Top topProg loose10 mean mg mb h₀)
    (N : News h₀ L s.heap ((hd, W.listOf vs.toArray nh) ::  LDo w.params it pl src tt ds lf lc c1 c2 c3 c4 o1 o2 o3 o4 oc fo tkk items ni i t np own)) (hno : NeAll hd own) (hq : AllNq hd ( LDo w.params it pl src tt ds lf lc c1 c2 c3 c4 o1 o2 o3 o4 oc fo tkk items ni i t np own)) (hun : un + 100 < cLine) (hdp : dp + 5 < recursionLimit)
    (hv : vs.length ≤ 100) (hb : b.size ≤ 100) (hs : false = (decide (b = #[13, 10]) || decide (b = #[10]) || decide (b = #[])))
    (fin : ∀ h' tk', vs.length < 100 → Fr h₀ L h' (fun y => if y = Str.ofString "line" then some (Value.bytes b tb) else if y = Str.ofString "headers" then some (.ref hd) else m y) → News h₀ L h' ((hd, W.listOf (vs ++ [(Value.bytes b tb)]).toArray (nh + 1)) :: LDo w.params it pl src tt ds lf lc c1 c2 c3 c4 o1 o2 o3 o4 oc fo tkk items ni i t np own) → Q .next { s with heap := h', toks := tk' })
    (finm : vs.length = 100 → ∀ h1 h' e t' tk', Fr h₀ L h1 (fun y => if y = Str.ofString "line" then some (Value.bytes b tb) else if y = Str.ofString "headers" then some (.ref hd) else m y) → News h₀ L h1 ((hd, W.listOf (vs ++ [(Value.bytes b tb)]).toArray (nh + 1)) :: LDo w.params it pl src tt ds lf lc c1 c2 c3 c4 o1 o2 o3 o4 oc fo tkk items ni i t np own) → h1.MadeExcOf h' e (.ref 31) [.str (Str.ofString "got more than 100 headers") t'] → E (.ref e) { s with heap := h', toks := tk' }) :
    wpAny (model prog10 w) (ktrTop dp un gd (Str.ofString "_read_headers") readScope L 21 (.ref 20) [] outer) (execs [nthS turnB 1, nthS turnB 2, nthS turnB 3, nthS turnB 4] (readE L)) Q E s := by
  have hfill : PySem.Challenge.rw_dm0148_10.about = PySem.Challenge.rw_dm0148_10.about ∧ hd10.heap_39 = hd10.heap_39 := by k_fill; exact ⟨rfl, rfl⟩
  clear hfill
  have hS : readScope = readScope := rfl
  conv at hS => rhs; whnf
  rw [hS]
  clear hS
  replace hq := allNq_out hq
  refine wpAny_execs_cons ?_
  (conv in (exec _ _) => arg 1; whnf)
  w_strict (k_steps)
  (conv in (exec _ _) => arg 1; whnf)
  w_strict (k_steps)
  (conv in (exec _ _) => arg 1; whnf)
  w_strict (k_steps)
  rotate_left
  (conv in (exec _ _) => arg 1; whnf)
  w_strict (k_steps)
  · exact fin _ _ (by omega) (by assumption) (fun p hp => by
      (rename News h₀ L _ _ => kN)
      exact kN p (.tail _ hp))
  · (rename Heap.MadeExcOf _ _ _ _ _ => hM)
    (rename Fr h₀ L _ _ => kF)
    (rename News h₀ L _ _ => kN)
    exact finm (by omega) _ _ _ _ _ kF kN hM
set_option maxRecDepth 100000 in
set_option maxHeartbeats 2000000 in
theorem rest_blank {w : World} {mean : ExcName → Option Value} {mg mb : Str → Option Value} {dp un : Nat} {gd : Option (List Code)} {outer : List Env} {A₀ : Around} {base h₀ : Heap} {L : Addr} {m : Str → Option Value} {s : Shared} {Q : Flow → Shared → Prop} {E : Value → Shared → Prop}
    {it pl src tt ds lf lc c1 c2 c3 c4 hd : Addr} {o1 o2 o3 o4 oc fo : Obj} {tkk mt : Tok} {q : Str} {items : List It} {ni np nh : Nat} {i : Nat} {t t9 : Tok} {vs : List Value} {own : List (Addr × Obj)} {b : Array UInt8} {tb : Tok}
    (B : Below A₀ base outer h₀) (F : Fr h₀ L s.heap (fun y => if y = Str.ofString "line" then some (.bytes b tb) else if y = Str.ofString "headers" then some (.ref hd) else m y)) (X : (hd10.heap_39 w.params).In h₀) (T : Top topProg loose10 mean mg mb h₀)
    (N : News h₀ L s.heap ((hd, W.listOf vs.toArray nh) ::  LDo w.params it pl src tt ds lf lc c1 c2 c3 c4 o1 o2 o3 o4 oc fo tkk items ni i t np own)) (hno : NeAll hd own) (hq : AllNq hd ( LDo w.params it pl src tt ds lf lc c1 c2 c3 c4 o1 o2 o3 o4 oc fo tkk items ni i t np own)) (hun : un + 100 < cLine) (hdp : dp + 5 < recursionLimit)
    (hv : vs.length ≤ 100) (hb : b.size ≤ 100) (hs : true = (decide (b = #[13, 10]) || decide (b = #[10]) || decide (b = #[])))
    (fin : ∀ h' tk', vs.length < 100 → Fr h₀ L h' (fun y => if y = Str.ofString "line" then some (Value.bytes b tb) else if y = Str.ofString "headers" then some (.ref hd) else m y) → News h₀ L h' ((hd, W.listOf (vs ++ [(Value.bytes b tb)]).toArray (nh + 1)) :: LDo w.params it pl src tt ds lf lc c1 c2 c3 c4 o1 o2 o3 o4 oc fo tkk items ni i t np own) → Q .brk { s with heap := h', toks := tk' })
    (finm : vs.length = 100 → ∀ h1 h' e t' tk', Fr h₀ L h1 (fun y => if y = Str.ofString "line" then some (Value.bytes b tb) else if y = Str.ofString "headers" then some (.ref hd) else m y) → News h₀ L h1 ((hd, W.listOf (vs ++ [(Value.bytes b tb)]).toArray (nh + 1)) :: LDo w.params it pl src tt ds lf lc c1 c2 c3 c4 o1 o2 o3 o4 oc fo tkk items ni i t np own) → h1.MadeExcOf h' e (.ref 31) [.str (Str.ofString "got more than 100 headers") t'] → E (.ref e) { s with heap := h', toks := tk' }) :
    wpAny (model prog10 w) (ktrTop dp un gd (Str.ofString "_read_headers") readScope L 21 (.ref 20) [] outer) (execs [nthS turnB 1, nthS turnB 2, nthS turnB 3, nthS turnB 4] (readE L)) Q E s := by
  have hfill : PySem.Challenge.rw_dm0148_10.about = PySem.Challenge.rw_dm0148_10.about ∧ hd10.heap_39 = hd10.heap_39 := by k_fill; exact ⟨rfl, rfl⟩
  clear hfill
  have hS : readScope = readScope := rfl
  conv at hS => rhs; whnf
  rw [hS]
  clear hS
  replace hq := allNq_out hq
  refine wpAny_execs_cons ?_
  (conv in (exec _ _) => arg 1; whnf)
  w_strict (k_steps)
  (conv in (exec _ _) => arg 1; whnf)
  w_strict (k_steps)
  (conv in (exec _ _) => arg 1; whnf)
  w_strict (k_steps)
  rotate_left
  (conv in (exec _ _) => arg 1; whnf)
  w_strict (k_steps)
  · exact fin _ _ (by omega) (by assumption) (fun p hp => by
      (rename News h₀ L _ _ => kN)
      exact kN p (.tail _ hp))
  · (rename Heap.MadeExcOf _ _ _ _ _ => hM)
    (rename Fr h₀ L _ _ => kF)
    (rename News h₀ L _ _ => kN)
    exact finm (by omega) _ _ _ _ _ kF kN hM
set_option maxRecDepth 100000 in
set_option maxHeartbeats 2000000 in
theorem rest_list {w : World} {mean : ExcName → Option Value} {mg mb : Str → Option Value} {dp un : Nat} {gd : Option (List Code)} {outer : List Env} {A₀ : Around} {base h₀ : Heap} {L : Addr} {m : Str → Option Value} {s : Shared} {Q : Flow → Shared → Prop} {E : Value → Shared → Prop}
    {it pl src tt ds lf lc c1 c2 c3 c4 hd : Addr} {o1 o2 o3 o4 oc fo : Obj} {tkk mt : Tok} {q : Str} {items : List It} {ni np nh : Nat} {i : Nat} {t t9 : Tok} {vs : List Value} {own : List (Addr × Obj)} {r : Addr} {vr : List Value} {nr : Nat}
    (B : Below A₀ base outer h₀) (F : Fr h₀ L s.heap (fun y => if y = Str.ofString "line" then some (.ref r) else if y = Str.ofString "headers" then some (.ref hd) else m y)) (X : (hd10.heap_39 w.params).In h₀) (T : Top topProg loose10 mean mg mb h₀)
    (N : News h₀ L s.heap ((hd, W.listOf vs.toArray nh) ::  LDo w.params it pl src tt ds lf lc c1 c2 c3 c4 o1 o2 o3 o4 oc fo tkk items ni i t np own)) (hno : NeAll hd own) (hq : AllNq hd ( LDo w.params it pl src tt ds lf lc c1 c2 c3 c4 o1 o2 o3 o4 oc fo tkk items ni i t np own)) (hun : un + 100 < cLine) (hdp : dp + 5 < recursionLimit)
    (hv : vs.length ≤ 100) (hr : (r, W.listOf vr.toArray nr) ∈ own) (hb : vr.length ≤ 101)
    (fin : ∀ h' tk', vs.length < 100 → Fr h₀ L h' (fun y => if y = Str.ofString "line" then some (Value.ref r) else if y = Str.ofString "headers" then some (.ref hd) else m y) → News h₀ L h' ((hd, W.listOf (vs ++ [(Value.ref r)]).toArray (nh + 1)) :: LDo w.params it pl src tt ds lf lc c1 c2 c3 c4 o1 o2 o3 o4 oc fo tkk items ni i t np own) → Q .next { s with heap := h', toks := tk' })
    (finm : vs.length = 100 → ∀ h1 h' e t' tk', Fr h₀ L h1 (fun y => if y = Str.ofString "line" then some (Value.ref r) else if y = Str.ofString "headers" then some (.ref hd) else m y) → News h₀ L h1 ((hd, W.listOf (vs ++ [(Value.ref r)]).toArray (nh + 1)) :: LDo w.params it pl src tt ds lf lc c1 c2 c3 c4 o1 o2 o3 o4 oc fo tkk items ni i t np own) → h1.MadeExcOf h' e (.ref 31) [.str (Str.ofString "got more than 100 headers") t'] → E (.ref e) { s with heap := h', toks := tk' }) :
    wpAny (model prog10 w) (ktrTop dp un gd (Str.ofString "_read_headers") readScope L 21 (.ref 20) [] outer) (execs [nthS turnB 1, nthS turnB 2, nthS turnB 3, nthS turnB 4] (readE L)) Q E s := by
  have hfill : PySem.Challenge.rw_dm0148_10.about = PySem.Challenge.rw_dm0148_10.about ∧ hd10.heap_39 = hd10.heap_39 := by k_fill; exact ⟨rfl, rfl⟩
  clear hfill
  have hS : readScope = readScope := rfl
  conv at hS => rhs; whnf
  rw [hS]
  clear hS
  replace hq := allNq_out hq
  refine wpAny_execs_cons ?_
  (conv in (exec _ _) => arg 1; whnf)
  w_strict (k_steps)
  (conv in (exec _ _) => arg 1; whnf)
  w_strict (k_steps)
  (conv in (exec _ _) => arg 1; whnf)
  w_strict (k_steps)
  rotate_left
  (conv in (exec _ _) => arg 1; whnf)
  w_strict (k_steps)
  · exact fin _ _ (by omega) (by assumption) (fun p hp => by
      (rename News h₀ L _ _ => kN)
      exact kN p (.tail _ hp))
  · (rename Heap.MadeExcOf _ _ _ _ _ => hM)
    (rename Fr h₀ L _ _ => kF)
    (rename News h₀ L _ _ => kN)
    exact finm (by omega) _ _ _ _ _ kF kN hM
end Mine
end

-- Slice10
section
theorem Mine.offSlice10 : True := by
  w_top off
  trivial
open PySem PySem.W PyProof.Rows PySem.Calls Builtin Builtin.Str
set_option linter.unusedVariables false
namespace Mine
open Mine10
theorem clip_lo {i n : Nat} (h : i ≤ n) : max (0 : Int) (min (if (i : Int) < 0 then (i : Int) + n else i) n) = i := by
  rw [if_neg (by omega)]; omega
theorem slice_idx {i n : Nat} (h : i < n) : Builtin.Str.strSliceIndices (some (i : Int)) (some ((i : Int) + 1)) 1 n = [i] := by
  unfold Builtin.Str.strSliceIndices sliceRange
  have e1 : max (0 : Int) (min (if (i : Int) < 0 then (i : Int) + n else i) n) = i := clip_lo (by omega)
  have e2 : max (0 : Int) (min (if (i : Int) + 1 < 0 then (i : Int) + 1 + n else i + 1) n) = i + 1 := by rw [if_neg (by omega)]; omega
  simp only [show (1 : Int) > 0 by decide, if_true, e1, e2]
  rw [if_pos (by omega)]
  have e3 : (((i : Int) + 1 - i + 1 - 1) / 1).toNat = 1 := by omega
  rw [e3]
  simp
theorem slice_idx0 {i n : Nat} (h : n ≤ i) : Builtin.Str.strSliceIndices (some (i : Int)) (some ((i : Int) + 1)) 1 n = [] := by
  unfold Builtin.Str.strSliceIndices sliceRange
  have e1 : max (0 : Int) (min (if (i : Int) < 0 then (i : Int) + n else i) n) = n := by rw [if_neg (by omega)]; omega
  have e2 : max (0 : Int) (min (if (i : Int) + 1 < 0 then (i : Int) + 1 + n else i + 1) n) = n := by rw [if_neg (by omega)]; omega
  simp only [show (1 : Int) > 0 by decide, if_true, e1, e2]
  rw [if_neg (by omega)]
  rfl
theorem slice_mark {items : List It} {i : Nat} {x : It} (hx : items[i]? = some x) (h2 : 1 < items.length) : Txt.slice (marksOf items) (some (i : Int)) (some ((i : Int) + 1)) = ⟨#[x.mark]⟩ := by
  have hi : i < items.length := (List.getElem?_eq_some_iff.mp hx).1
  unfold Txt.slice
  rw [marks_len, slice_idx hi, if_neg (by simp; omega)]
  simp [hx]
theorem slice_end {items : List It} {i : Nat} (hi : items.length ≤ i) (h2 : 1 < items.length) : Txt.slice (marksOf items) (some (i : Int)) (some ((i : Int) + 1)) = ⟨#[]⟩ := by
  unfold Txt.slice
  rw [marks_len, slice_idx0 hi, if_neg (by simp; omega)]
  rfl
end Mine
end

-- Rg10
section
theorem Mine.offRg10 : True := by
  w_top off
  trivial
open PySem PySem.W PyProof.Rows PySem.Calls
set_option linter.unusedVariables false
namespace Mine
open Mine10
def rgDef : Stmt := nthS mainB 13
def rgB : List Stmt := suite rgDef
def rgScope : Scope := scopeS rgDef
def rgWhile : Stmt := nthS rgB 1
def rgT : List Stmt := suite rgWhile
abbrev rgE (L : Addr) : Env := envOf (Str.ofString "_law_reading") rgScope L 146 (.ref 145)
abbrev rgA (dp un : Nat) (gd : Option (List Code)) (L : Addr) (outer : List Env) : Around := ktrTop dp un gd (Str.ofString "_law_reading") rgScope L 146 (.ref 145) [] outer
abbrev mapR (m : Str → Option Value) (i : Nat) (t : Tok) (sk it : Addr) (mk : Str) (mt : Tok) : Str → Option Value := fun y => if y = Str.ofString "at" then some (.int (i : Int) t) else if y = Str.ofString "stack" then some (.ref sk) else if y = Str.ofString "items" then some (.ref it) else if y = Str.ofString "marks" then some (.str mk mt) else m y
section
variable {prog : Program} {w : World} {A : Around} {E : Value → Shared → Prop} {s : Shared} {h₀ : Heap} {L ta : Addr} {m : Str → Option Value} {news news' : List (Addr × Obj)} {ts : List Value} {v x : Value} {n : Nat} {Q : Value → Shared → Prop}
theorem roomR {dp un : Nat} {gd : Option (List Code)} {L : Addr} {outer : List Env} (h : un + 100 < cLine) : (rgA dp un gd L outer).units < cLine := by show un < cLine; omega
theorem last_item {value slice : Expr} {u : Tok} (N : News h₀ L s.heap news) (hm : (ta, W.listOf (ts ++ [v]).toArray n) ∈ news) (hz : ts.length ≤ 1000) (h : Q v s)
    (hs : subscripted slice false (.ref ta) (.int (-1) u) = operate [.ref ta, .int (-1) u] (getItem (.ref ta) (.int (-1) u)) := by with_unfolding_all rfl) :
    wpAny (model prog w) A (subscriptTail value slice (.ref ta) (.int (-1) u)) Q E s := by
  have hl : s.heap.IsList ta (ts ++ [v]).toArray := ⟨_, (N _ hm).1, rfl, n, rfl⟩
  have hsz : (ts ++ [v]).toArray.size = ts.length + 1 := by simp
  refine tail_any hl.typeIs slot_list_getitem.lookup (wpAny_getItem_list_neg hl (by omega) (by omega) (by omega) ?_ h) hs
  have e : (-1 + ((ts ++ [v]).toArray.size : Int)).toNat = ts.length := by rw [hsz]; omega
  rw [e]; simp
theorem append_KL {D : Addr} {vs : List Value} (F : Fr h₀ L s.heap m) (N : News h₀ L s.heap news) (U : Upd D (W.listOf vs.toArray n) (W.listOf (vs ++ [x]).toArray (n + 1)) news news') (hz : vs.length ≤ 1000)
    (h : ∀ h', Fr h₀ L h' m → News h₀ L h' news' → Q .none { s with heap := h' }) : wpAny (model prog w) A (call (.builtin "list.append") [.ref D, x]) Q E s := by
  have e : vs.toArray.push x = (vs ++ [x]).toArray := by simp
  rw [← e] at U
  exact append_K F N U h (by rw [List.size_toArray, sizeLine_eq]; omega)
theorem pop_last {rest : List (Addr × Obj)} (F : Fr h₀ L s.heap m) (N : News h₀ L s.heap ((ta, W.listOf (ts ++ [v]).toArray n) :: rest)) (hz : ts.length ≤ 1000) (hne : NeAll ta rest)
    (h : ∀ h', Fr h₀ L h' m → News h₀ L h' ((ta, W.listOf ts.toArray (n + 1)) :: rest) → Q v { s with heap := h' }) : wpAny (model prog w) A (call (.builtin "list.pop") [.ref ta]) Q E s := by
  have z := N (ta, W.listOf (ts ++ [v]).toArray n) (.head _)
  have hsz : (ts ++ [v]).toArray.size = ts.length + 1 := by simp
  refine PyProof.Rows.Copied.pop_at (its := (ts ++ [v]).toArray) (y := v) (hsz := by rw [hsz, sizeLine_eq]; omega) z.1 (by simp) fun h' hs ho' => ?_
  have e : (ts ++ [v]).toArray.pop = ts.toArray := by simp
  rw [e] at ho'
  refine h h' (F.change hs z.2.1 z.2.2) (fun p hp => ?_)
  rcases List.mem_cons.mp hp with rfl | hp
  · exact ⟨ho', z.2⟩
  · have P := N p (.tail _ hp); exact ⟨(hs.2 p.1 (hne p hp)).trans P.1, P.2⟩
theorem eq_not_empty {a b : Addr} {n2 : Nat} (N : News h₀ L s.heap news) (h1 : (a, W.listOf (ts ++ [v]).toArray n) ∈ news) (h2 : (b, W.listOf #[] n2) ∈ news) (hu : A.units < cLine) (h : Q (.bool false) s) : wpAny (model prog w) A (compareOp .Eq (.ref a) (.ref b)) Q E s :=
  SeqAt.RcAt.lists_lengths (items := (ts ++ [v]).toArray) (items2 := #[]) ⟨_, N.get h1, rfl, n, rfl⟩ ⟨_, N.get h2, rfl, n2, rfl⟩ (by simp) hu prog w E Q h
theorem mark_sl {value slice : Expr} {items : List It} {ms : Str} {i : Nat} {ui uj mt : Tok} (F : Fr h₀ L s.heap m) (N : News h₀ L s.heap news) (hlen : items.length ≤ 1000) (hms : Txt.slice (marksOf items) (some (i : Int)) (some ((i : Int) + 1)) = ms) (h : ∀ h' t' k, Fr h₀ L h' m → News h₀ L h' news → Q (.str ms t') { s with heap := h', toks := k })
    (hs : subscripted slice false (.str (marksOf items) mt) (.ref s.heap.objs.size) = operate [.ref s.heap.objs.size, .str (marksOf items) mt] (getItem (.str (marksOf items) mt) (.ref s.heap.objs.size)))
    (ht : ∀ r, letTemporaryGo value (.str (marksOf items) mt) r = pure ()) :
    wpAny (model prog w) A (subscriptTail value slice (.str (marksOf items) mt) (.ref s.heap.objs.size)) Q E { s with heap := s.heap.push { cls := .type "slice", data := .fields #[.int (i : Int) ui, .int ((i : Int) + 1) uj, .none] } } := by
  refine slice_strN_ss F N (fun h' t' k a b => ?_) hs ht (by rw [marks_len, sizeLine_eq]; omega)
  rw [hms]
  exact h h' t' k a b
end
local macro_rules | `(tactic| k_all) => `(tactic| exact NeAll.out (by assumption))
local macro_rules | `(tactic| walk_at "subscriptTail Name Slice str ref") => `(tactic| (k_here; (with_reducible rename Fr _ _ _ _ => kF'); (with_reducible rename News _ _ _ _ => kN'); k_dflt (refine mark_sl (s := ⟨_, _, _, _, _⟩) kF' kN' (by assumption) (by assumption) ?_ (by with_unfolding_all rfl) (by (intro _; with_unfolding_all rfl)); k_whole); intro _ _ _ _ _))
local macro_rules | `(tactic| walk_at "subscriptTail Name UnaryOp ref int") => `(tactic| (k_here; k_dflt (refine last_item (by k_asm) (by k_mem) (by first | omega | (simp; omega)) ?_ (by with_unfolding_all rfl); k_whole)))
local macro_rules | `(tactic| walk_at "subscriptTail Name Name ref int") => `(tactic| (k_here; k_dflt (refine it_item (by k_asm) (by k_mem) (by assumption) (by assumption) ?_ (by with_unfolding_all rfl) (by (intro _; with_unfolding_all rfl)); k_whole)))
local macro_rules | `(tactic| walk_at "call builtin:len") => `(tactic| (k_here; k_dflt (first | (refine len_push (by k_asm) (by k_mem) (by first | omega | (simp; omega)) ?_; k_whole) | (refine len_led (by k_asm) (by k_mem) (by first | omega | (simp; omega)) ?_; k_whole))))
local macro_rules | `(tactic| walk_at "call builtin:list.append") => `(tactic| (k_here; k_dflt (refine append_KL (by k_asm) (by k_asm) (by k_upd) (by first | omega | (simp; omega)) ?_; k_whole); intro _ _ _))
local macro_rules | `(tactic| walk_at "call builtin:list.pop") => `(tactic| (k_here; k_dflt (refine pop_last (by k_asm) (by k_asm) (by first | omega | (simp; omega)) (by repeat' (first | assumption | refine neCons (by omega) ?_)) ?_; k_whole); intro _ _ _))
local macro_rules | `(tactic| walk_at "compareOp Eq ref ref") => `(tactic| (k_here; k_dflt (refine eq_not_empty (by k_asm) (by k_mem) (by k_mem) (by exact roomR (by assumption)) ?_; k_whole)))
set_option maxRecDepth 100000 in
set_option maxHeartbeats 2000000 in
theorem rg_dot {w : World} {mean : ExcName → Option Value} {mg mb : Str → Option Value} {dp un : Nat} {gd : Option (List Code)} {outer : List Env} {A₀ : Around} {base h₀ : Heap} {L : Addr} {m : Str → Option Value} {s : Shared} {Q : Flow → Shared → Prop} {E : Value → Shared → Prop}
    {it sk top : Addr} {items : List It} {ni n nt i : Nat} {t mt : Tok} {refs vt : List Value} {tw : List (Addr × Obj)} {x : It}
    (B : Below A₀ base outer h₀) (F : Fr h₀ L s.heap (mapR m i t sk it (marksOf items) mt)) (X : (hd10.heap_39 w.params).In h₀) (T : Top topProg loose10 mean mg mb h₀)
    (N : News h₀ L s.heap ((sk, W.listOf (refs ++ [Value.ref top]).toArray n) :: (top, W.listOf vt.toArray nt) ::  (it, W.listOf (items.map It.val).toArray ni) :: tw)) (hun : un + 100 < cLine) (hdp : dp + 5 < recursionLimit) (hlen : items.length ≤ 1000) (hr : refs.length ≤ 900) (hv : vt.length ≤ 100)
    (hq1 : @Ne Nat sk top ∧ @Ne Nat sk it ∧ @Ne Nat top it) (hs1 : NeAll sk tw) (ht1 : NeAll top tw) (hx : items[i]? = some x) (hil : i < items.length) (hms : Txt.slice (marksOf items) (some (i : Int)) (some ((i : Int) + 1)) = Str.ofString ".")
    (fin : ∀ h' tk' m' t' (n' : Nat), Fr h₀ L h' m' → m' (Str.ofString "at") = some (.int ((i + 1 : Nat) : Int) t') → m' (Str.ofString "stack") = some (.ref sk) → m' (Str.ofString "items") = some (.ref it) → m' (Str.ofString "marks") = some (.str (marksOf items) mt) → News h₀ L h' ((sk, W.listOf (refs ++ [Value.ref top]).toArray n) :: (top, W.listOf (vt ++ [x.val]).toArray (nt + 1)) :: (it, W.listOf (items.map It.val).toArray ni) :: tw) → vt.length < 100 → Q .next { s with heap := h', toks := tk' })
    (finr : ∀ D h' tk' m' tt, vt.length = 100 → Fr h₀ L h' m' → News h₀ L h' ((D, ({ cls := .type "tuple", data := .seq #[Value.none, .int ((i + 1 : Nat) : Int) tt] } : Obj)) ::  (it, W.listOf (items.map It.val).toArray ni) :: tw) → Q (.ret (.ref D)) { s with heap := h', toks := tk' }) :
    wpAny (model prog10 w) (rgA dp un gd L outer) (execs [nthS rgT 0, nthS rgT 1, nthS rgT 2, nthS rgT 3] (rgE L)) Q E s := by
  have hfill : PySem.Challenge.rw_dm0148_10.about = PySem.Challenge.rw_dm0148_10.about ∧ hd10.heap_39 = hd10.heap_39 := by k_fill; exact ⟨rfl, rfl⟩
  clear hfill
  refine wpAny_execs_cons ?_
  (conv in (exec _ _) => arg 1; whnf)
  w_strict (k_steps)
  (conv in (exec _ _) => arg 1; whnf)
  w_strict (k_steps)
  (conv in (exec _ _) => arg 1; whnf)
  w_strict (k_steps)
  (conv in (exec _ _) => arg 1; whnf)
  w_strict (k_steps)
  · (rename Fr h₀ L _ _ => kF)
    (rename News h₀ L _ _ => kN)
    exact finr _ _ _ _ _ (by omega) kF (fun p hp => kN p (by rcases List.mem_cons.mp hp with rfl | hp; k_mem; rcases List.mem_cons.mp hp with rfl | hp; k_mem; (repeat (first | exact hp | refine List.Mem.tail _ ?_))))
  · (rename Fr h₀ L _ _ => kF)
    (rename News h₀ L _ _ => kN)
    exact fin _ _ _ _ 0 kF (by rfl) (by rfl) (by rfl) (by rfl) kN (by omega)
set_option maxRecDepth 100000 in
set_option maxHeartbeats 2000000 in
theorem rg_err {w : World} {mean : ExcName → Option Value} {mg mb : Str → Option Value} {dp un : Nat} {gd : Option (List Code)} {outer : List Env} {A₀ : Around} {base h₀ : Heap} {L : Addr} {m : Str → Option Value} {s : Shared} {Q : Flow → Shared → Prop} {E : Value → Shared → Prop}
    {it sk top : Addr} {items : List It} {ni n nt i : Nat} {t mt : Tok} {refs vt : List Value} {tw : List (Addr × Obj)} {x : It}
    (B : Below A₀ base outer h₀) (F : Fr h₀ L s.heap (mapR m i t sk it (marksOf items) mt)) (X : (hd10.heap_39 w.params).In h₀) (T : Top topProg loose10 mean mg mb h₀)
    (N : News h₀ L s.heap ((sk, W.listOf (refs ++ [Value.ref top]).toArray n) :: (top, W.listOf vt.toArray nt) ::  (it, W.listOf (items.map It.val).toArray ni) :: tw)) (hun : un + 100 < cLine) (hdp : dp + 5 < recursionLimit) (hlen : items.length ≤ 1000) (hr : refs.length ≤ 900) (hv : vt.length ≤ 100)
    (hq1 : @Ne Nat sk top ∧ @Ne Nat sk it ∧ @Ne Nat top it) (hs1 : NeAll sk tw) (ht1 : NeAll top tw) (hx : items[i]? = some x) (hil : i < items.length) (hms : Txt.slice (marksOf items) (some (i : Int)) (some ((i : Int) + 1)) = Str.ofString "!")
    (finr : ∀ D h' tk' m' tt, Fr h₀ L h' m' → News h₀ L h' ((D, ({ cls := .type "tuple", data := .seq #[x.val, .int ((i + 1 : Nat) : Int) tt] } : Obj)) ::  (it, W.listOf (items.map It.val).toArray ni) :: tw) → Q (.ret (.ref D)) { s with heap := h', toks := tk' }) :
    wpAny (model prog10 w) (rgA dp un gd L outer) (execs [nthS rgT 0, nthS rgT 1, nthS rgT 2, nthS rgT 3] (rgE L)) Q E s := by
  have hfill : PySem.Challenge.rw_dm0148_10.about = PySem.Challenge.rw_dm0148_10.about ∧ hd10.heap_39 = hd10.heap_39 := by k_fill; exact ⟨rfl, rfl⟩
  clear hfill
  refine wpAny_execs_cons ?_
  (conv in (exec _ _) => arg 1; whnf)
  w_strict (k_steps)
  (conv in (exec _ _) => arg 1; whnf)
  w_strict (k_steps)
  (conv in (exec _ _) => arg 1; whnf)
  w_strict (k_steps)
  (conv in (exec _ _) => arg 1; whnf)
  w_strict (k_steps)
  · (rename Fr h₀ L _ _ => kF)
    (rename News h₀ L _ _ => kN)
    exact finr _ _ _ _ _ kF (fun p hp => kN p (by rcases List.mem_cons.mp hp with rfl | hp; k_mem; rcases List.mem_cons.mp hp with rfl | hp; k_mem; (repeat (first | exact hp | refine List.Mem.tail _ ?_))))
set_option maxRecDepth 100000 in
set_option maxHeartbeats 2000000 in
theorem rg_op {w : World} {mean : ExcName → Option Value} {mg mb : Str → Option Value} {dp un : Nat} {gd : Option (List Code)} {outer : List Env} {A₀ : Around} {base h₀ : Heap} {L : Addr} {m : Str → Option Value} {s : Shared} {Q : Flow → Shared → Prop} {E : Value → Shared → Prop}
    {it sk top : Addr} {items : List It} {ni n nt i : Nat} {t mt : Tok} {refs vt : List Value} {tw : List (Addr × Obj)} {x : It}
    (B : Below A₀ base outer h₀) (F : Fr h₀ L s.heap (mapR m i t sk it (marksOf items) mt)) (X : (hd10.heap_39 w.params).In h₀) (T : Top topProg loose10 mean mg mb h₀)
    (N : News h₀ L s.heap ((sk, W.listOf (refs ++ [Value.ref top]).toArray n) :: (top, W.listOf vt.toArray nt) ::  (it, W.listOf (items.map It.val).toArray ni) :: tw)) (hun : un + 100 < cLine) (hdp : dp + 5 < recursionLimit) (hlen : items.length ≤ 1000) (hr : refs.length ≤ 900) (hv : vt.length ≤ 100)
    (hq1 : @Ne Nat sk top ∧ @Ne Nat sk it ∧ @Ne Nat top it) (hs1 : NeAll sk tw) (ht1 : NeAll top tw) (hx : items[i]? = some x) (hil : i < items.length) (hms : Txt.slice (marksOf items) (some (i : Int)) (some ((i : Int) + 1)) = Str.ofString "(")
    (fin : ∀ nl h' tk' m' t' n', Fr h₀ L h' m' → m' (Str.ofString "at") = some (.int ((i + 1 : Nat) : Int) t') → m' (Str.ofString "stack") = some (.ref sk) → m' (Str.ofString "items") = some (.ref it) → m' (Str.ofString "marks") = some (.str (marksOf items) mt) → News h₀ L h' ((sk, W.listOf ((refs ++ [Value.ref top]) ++ [Value.ref nl]).toArray n') :: (nl, W.listOf #[] 0) :: (top, W.listOf vt.toArray nt) :: (it, W.listOf (items.map It.val).toArray ni) :: tw) → (@LT.lt Nat _ sk nl ∧ @LT.lt Nat _ top nl ∧ @LT.lt Nat _ it nl ∧ AllLt nl tw) → Q .next { s with heap := h', toks := tk' }) :
    wpAny (model prog10 w) (rgA dp un gd L outer) (execs [nthS rgT 0, nthS rgT 1, nthS rgT 2, nthS rgT 3] (rgE L)) Q E s := by
  have hfill : PySem.Challenge.rw_dm0148_10.about = PySem.Challenge.rw_dm0148_10.about ∧ hd10.heap_39 = hd10.heap_39 := by k_fill; exact ⟨rfl, rfl⟩
  clear hfill
  refine wpAny_execs_cons ?_
  (conv in (exec _ _) => arg 1; whnf)
  w_strict (k_steps)
  (conv in (exec _ _) => arg 1; whnf)
  w_strict (k_steps)
  (conv in (exec _ _) => arg 1; whnf)
  w_strict (k_steps)
  (conv in (exec _ _) => arg 1; whnf)
  w_strict (k_steps)
  · (rename Fr h₀ L _ _ => kF)
    (rename News h₀ L _ _ => kN)
    (rename _ ∧ _ ∧ _ ∧ AllLt _ tw => kl)
    exact fin _ _ _ _ _ _ kF (by rfl) (by rfl) (by rfl) (by rfl) (fun p hp => kN p (by rcases List.mem_cons.mp hp with rfl | hp; k_mem; rcases List.mem_cons.mp hp with rfl | hp; k_mem; rcases List.mem_cons.mp hp with rfl | hp; k_mem; rcases List.mem_cons.mp hp with rfl | hp; k_mem; (repeat (first | exact hp | refine List.Mem.tail _ ?_)))) kl
set_option maxRecDepth 100000 in
set_option maxHeartbeats 2000000 in
theorem rg_last_blank {w : World} {mean : ExcName → Option Value} {mg mb : Str → Option Value} {dp un : Nat} {gd : Option (List Code)} {outer : List Env} {A₀ : Around} {base h₀ : Heap} {L : Addr} {m : Str → Option Value} {s : Shared} {Q : Flow → Shared → Prop} {E : Value → Shared → Prop}
    {it sk top : Addr} {items : List It} {ni n nt i : Nat} {t mt : Tok} {refs vt : List Value} {tw : List (Addr × Obj)} {x : It}
    (B : Below A₀ base outer h₀) (F : Fr h₀ L s.heap (mapR m i t sk it (marksOf items) mt)) (X : (hd10.heap_39 w.params).In h₀) (T : Top topProg loose10 mean mg mb h₀)
    (N : News h₀ L s.heap ((sk, W.listOf (([] : List Value) ++ [Value.ref top]).toArray n) :: (top, W.listOf vt.toArray nt) ::  (it, W.listOf (items.map It.val).toArray ni) :: tw)) (hun : un + 100 < cLine) (hdp : dp + 5 < recursionLimit) (hlen : items.length ≤ 1000) (hr : refs.length ≤ 900) (hv : vt.length ≤ 100)
    (hq1 : @Ne Nat sk top ∧ @Ne Nat sk it ∧ @Ne Nat top it) (hs1 : NeAll sk tw) (ht1 : NeAll top tw) (hx : items[i]? = some x) (hil : i < items.length) (hms : Txt.slice (marksOf items) (some (i : Int)) (some ((i : Int) + 1)) = Str.ofString "B")
    (finr : ∀ D h' tk' m' tt, vt.length = 100 → Fr h₀ L h' m' → News h₀ L h' ((D, ({ cls := .type "tuple", data := .seq #[Value.none, .int ((i + 1 : Nat) : Int) tt] } : Obj)) ::  (it, W.listOf (items.map It.val).toArray ni) :: tw) → Q (.ret (.ref D)) { s with heap := h', toks := tk' })
    (fino : ∀ D h' tk' m' tt, vt.length < 100 → Fr h₀ L h' m' → News h₀ L h' ((D, ({ cls := .type "tuple", data := .seq #[Value.ref top, .int ((i + 1 : Nat) : Int) tt] } : Obj)) :: (top, W.listOf (vt ++ [x.val]).toArray (nt + 1)) :: (it, W.listOf (items.map It.val).toArray ni) :: tw) → Q (.ret (.ref D)) { s with heap := h', toks := tk' }) :
    wpAny (model prog10 w) (rgA dp un gd L outer) (execs [nthS rgT 0, nthS rgT 1, nthS rgT 2, nthS rgT 3] (rgE L)) Q E s := by
  have hfill : PySem.Challenge.rw_dm0148_10.about = PySem.Challenge.rw_dm0148_10.about ∧ hd10.heap_39 = hd10.heap_39 := by k_fill; exact ⟨rfl, rfl⟩
  clear hfill
  refine wpAny_execs_cons ?_
  (conv in (exec _ _) => arg 1; whnf)
  w_strict (k_steps)
  (conv in (exec _ _) => arg 1; whnf)
  w_strict (k_steps)
  (conv in (exec _ _) => arg 1; whnf)
  w_strict (k_steps)
  (conv in (exec _ _) => arg 1; whnf)
  w_strict (k_steps)
  · (rename Fr h₀ L _ _ => kF)
    (rename News h₀ L _ _ => kN)
    exact finr _ _ _ _ _ (by omega) kF (fun p hp => kN p (by rcases List.mem_cons.mp hp with rfl | hp; k_mem; rcases List.mem_cons.mp hp with rfl | hp; k_mem; (repeat (first | exact hp | refine List.Mem.tail _ ?_))))
  · (rename Fr h₀ L _ _ => kF)
    (rename News h₀ L _ _ => kN)
    exact fino _ _ _ _ _ (by omega) kF (fun p hp => kN p (by rcases List.mem_cons.mp hp with rfl | hp; k_mem; rcases List.mem_cons.mp hp with rfl | hp; k_mem; rcases List.mem_cons.mp hp with rfl | hp; k_mem; (repeat (first | exact hp | refine List.Mem.tail _ ?_))))
set_option maxRecDepth 100000 in
set_option maxHeartbeats 2000000 in
theorem rg_close_blank {w : World} {mean : ExcName → Option Value} {mg mb : Str → Option Value} {dp un : Nat} {gd : Option (List Code)} {outer : List Env} {A₀ : Around} {base h₀ : Heap} {L : Addr} {m : Str → Option Value} {s : Shared} {Q : Flow → Shared → Prop} {E : Value → Shared → Prop}
    {it sk top : Addr} {items : List It} {ni n nt i : Nat} {t mt : Tok} {refs vt : List Value} {tw : List (Addr × Obj)} {x : It} {r : Addr} {vr : List Value} {nr : Nat}
    (B : Below A₀ base outer h₀) (F : Fr h₀ L s.heap (mapR m i t sk it (marksOf items) mt)) (X : (hd10.heap_39 w.params).In h₀) (T : Top topProg loose10 mean mg mb h₀)
    (N : News h₀ L s.heap ((sk, W.listOf ((refs ++ [Value.ref r]) ++ [Value.ref top]).toArray n) :: (top, W.listOf vt.toArray nt) :: (r, W.listOf vr.toArray nr) :: (it, W.listOf (items.map It.val).toArray ni) :: tw)) (hun : un + 100 < cLine) (hdp : dp + 5 < recursionLimit) (hlen : items.length ≤ 1000) (hr : refs.length ≤ 900) (hv : vt.length ≤ 100)
    (hq1 : @Ne Nat sk top ∧ @Ne Nat sk it ∧ @Ne Nat top it) (hs1 : NeAll sk tw) (ht1 : NeAll top tw) (hx : items[i]? = some x) (hil : i < items.length) (hms : Txt.slice (marksOf items) (some (i : Int)) (some ((i : Int) + 1)) = Str.ofString "B") (hq2 : @Ne Nat sk r ∧ @Ne Nat top r ∧ @Ne Nat r it) (hr1 : NeAll r tw) (hvr : vr.length ≤ 100)
    (finr : ∀ D h' tk' m' tt, (vt.length = 100 ∨ (vt.length < 100 ∧ vr.length = 100)) → Fr h₀ L h' m' → News h₀ L h' ((D, ({ cls := .type "tuple", data := .seq #[Value.none, .int ((i + 1 : Nat) : Int) tt] } : Obj)) ::  (it, W.listOf (items.map It.val).toArray ni) :: tw) → Q (.ret (.ref D)) { s with heap := h', toks := tk' })
    (fin : ∀ h' tk' m' t' (n' : Nat), Fr h₀ L h' m' → m' (Str.ofString "at") = some (.int ((i + 1 : Nat) : Int) t') → m' (Str.ofString "stack") = some (.ref sk) → m' (Str.ofString "items") = some (.ref it) → m' (Str.ofString "marks") = some (.str (marksOf items) mt) → News h₀ L h' ((sk, W.listOf (refs ++ [Value.ref r]).toArray n') :: (r, W.listOf (vr ++ [Value.ref top]).toArray (nr + 1)) :: (top, W.listOf (vt ++ [x.val]).toArray (nt + 1)) :: (it, W.listOf (items.map It.val).toArray ni) :: tw) → vt.length < 100 → vr.length < 100 → Q .next { s with heap := h', toks := tk' }) :
    wpAny (model prog10 w) (rgA dp un gd L outer) (execs [nthS rgT 0, nthS rgT 1, nthS rgT 2, nthS rgT 3] (rgE L)) Q E s := by
  have hfill : PySem.Challenge.rw_dm0148_10.about = PySem.Challenge.rw_dm0148_10.about ∧ hd10.heap_39 = hd10.heap_39 := by k_fill; exact ⟨rfl, rfl⟩
  clear hfill
  refine wpAny_execs_cons ?_
  (conv in (exec _ _) => arg 1; whnf)
  w_strict (k_steps)
  (conv in (exec _ _) => arg 1; whnf)
  w_strict (k_steps)
  (conv in (exec _ _) => arg 1; whnf)
  w_strict (k_steps)
  (conv in (exec _ _) => arg 1; whnf)
  w_strict (k_steps)
  · (rename Fr h₀ L _ _ => kF)
    (rename News h₀ L _ _ => kN)
    exact finr _ _ _ _ _ (by omega) kF (fun p hp => kN p (by rcases List.mem_cons.mp hp with rfl | hp; k_mem; rcases List.mem_cons.mp hp with rfl | hp; k_mem; (repeat (first | exact hp | refine List.Mem.tail _ ?_))))
  · (rename Fr h₀ L _ _ => kF)
    (rename News h₀ L _ _ => kN)
    exact finr _ _ _ _ _ (by omega) kF (fun p hp => kN p (by rcases List.mem_cons.mp hp with rfl | hp; k_mem; rcases List.mem_cons.mp hp with rfl | hp; k_mem; (repeat (first | exact hp | refine List.Mem.tail _ ?_))))
  · (rename Fr h₀ L _ _ => kF)
    (rename News h₀ L _ _ => kN)
    exact fin _ _ _ _ _ kF (by rfl) (by rfl) (by rfl) (by rfl) (fun p hp => kN p (by rcases List.mem_cons.mp hp with rfl | hp; k_mem; rcases List.mem_cons.mp hp with rfl | hp; k_mem; rcases List.mem_cons.mp hp with rfl | hp; k_mem; rcases List.mem_cons.mp hp with rfl | hp; k_mem; (repeat (first | exact hp | refine List.Mem.tail _ ?_)))) (by omega) (by omega)
set_option maxRecDepth 100000 in
set_option maxHeartbeats 2000000 in
theorem rg_last_eof {w : World} {mean : ExcName → Option Value} {mg mb : Str → Option Value} {dp un : Nat} {gd : Option (List Code)} {outer : List Env} {A₀ : Around} {base h₀ : Heap} {L : Addr} {m : Str → Option Value} {s : Shared} {Q : Flow → Shared → Prop} {E : Value → Shared → Prop}
    {it sk top : Addr} {items : List It} {ni n nt i : Nat} {t mt : Tok} {refs vt : List Value} {tw : List (Addr × Obj)} 
    (B : Below A₀ base outer h₀) (F : Fr h₀ L s.heap (mapR m i t sk it (marksOf items) mt)) (X : (hd10.heap_39 w.params).In h₀) (T : Top topProg loose10 mean mg mb h₀)
    (N : News h₀ L s.heap ((sk, W.listOf (([] : List Value) ++ [Value.ref top]).toArray n) :: (top, W.listOf vt.toArray nt) ::  (it, W.listOf (items.map It.val).toArray ni) :: tw)) (hun : un + 100 < cLine) (hdp : dp + 5 < recursionLimit) (hlen : items.length ≤ 1000) (hr : refs.length ≤ 900) (hv : vt.length ≤ 100)
    (hq1 : @Ne Nat sk top ∧ @Ne Nat sk it ∧ @Ne Nat top it) (hs1 : NeAll sk tw) (ht1 : NeAll top tw) (hil : items.length ≤ i) (hms : Txt.slice (marksOf items) (some (i : Int)) (some ((i : Int) + 1)) = Str.ofString "")
    (finr : ∀ D h' tk' m' tt (t5 : Tok), vt.length = 100 → Fr h₀ L h' m' → News h₀ L h' ((D, ({ cls := .type "tuple", data := .seq #[Value.none, .int ((i + 1 : Nat) : Int) tt] } : Obj)) ::  (it, W.listOf (items.map It.val).toArray ni) :: tw) → Q (.ret (.ref D)) { s with heap := h', toks := tk' })
    (fino : ∀ D h' tk' m' tt (t5 : Tok), vt.length < 100 → Fr h₀ L h' m' → News h₀ L h' ((D, ({ cls := .type "tuple", data := .seq #[Value.ref top, .int ((i + 1 : Nat) : Int) tt] } : Obj)) :: (top, W.listOf (vt ++ [(Value.bytes #[] t5)]).toArray (nt + 1)) :: (it, W.listOf (items.map It.val).toArray ni) :: tw) → Q (.ret (.ref D)) { s with heap := h', toks := tk' }) :
    wpAny (model prog10 w) (rgA dp un gd L outer) (execs [nthS rgT 0, nthS rgT 1, nthS rgT 2, nthS rgT 3] (rgE L)) Q E s := by
  have hfill : PySem.Challenge.rw_dm0148_10.about = PySem.Challenge.rw_dm0148_10.about ∧ hd10.heap_39 = hd10.heap_39 := by k_fill; exact ⟨rfl, rfl⟩
  clear hfill
  refine wpAny_execs_cons ?_
  (conv in (exec _ _) => arg 1; whnf)
  w_strict (k_steps)
  (conv in (exec _ _) => arg 1; whnf)
  w_strict (k_steps)
  (conv in (exec _ _) => arg 1; whnf)
  w_strict (k_steps)
  (conv in (exec _ _) => arg 1; whnf)
  w_strict (k_steps)
  · (rename Fr h₀ L _ _ => kF)
    (rename News h₀ L _ _ => kN)
    exact finr _ _ _ _ _ 0 (by omega) kF (fun p hp => kN p (by rcases List.mem_cons.mp hp with rfl | hp; k_mem; rcases List.mem_cons.mp hp with rfl | hp; k_mem; (repeat (first | exact hp | refine List.Mem.tail _ ?_))))
  · (rename Fr h₀ L _ _ => kF)
    (rename News h₀ L _ _ => kN)
    exact fino _ _ _ _ _ _ (by omega) kF (fun p hp => kN p (by rcases List.mem_cons.mp hp with rfl | hp; k_mem; rcases List.mem_cons.mp hp with rfl | hp; k_mem; rcases List.mem_cons.mp hp with rfl | hp; k_mem; (repeat (first | exact hp | refine List.Mem.tail _ ?_))))
set_option maxRecDepth 100000 in
set_option maxHeartbeats 2000000 in
theorem rg_close_eof {w : World} {mean : ExcName → Option Value} {mg mb : Str → Option Value} {dp un : Nat} {gd : Option (List Code)} {outer : List Env} {A₀ : Around} {base h₀ : Heap} {L : Addr} {m : Str → Option Value} {s : Shared} {Q : Flow → Shared → Prop} {E : Value → Shared → Prop}
    {it sk top : Addr} {items : List It} {ni n nt i : Nat} {t mt : Tok} {refs vt : List Value} {tw : List (Addr × Obj)}  {r : Addr} {vr : List Value} {nr : Nat}
    (B : Below A₀ base outer h₀) (F : Fr h₀ L s.heap (mapR m i t sk it (marksOf items) mt)) (X : (hd10.heap_39 w.params).In h₀) (T : Top topProg loose10 mean mg mb h₀)
    (N : News h₀ L s.heap ((sk, W.listOf ((refs ++ [Value.ref r]) ++ [Value.ref top]).toArray n) :: (top, W.listOf vt.toArray nt) :: (r, W.listOf vr.toArray nr) :: (it, W.listOf (items.map It.val).toArray ni) :: tw)) (hun : un + 100 < cLine) (hdp : dp + 5 < recursionLimit) (hlen : items.length ≤ 1000) (hr : refs.length ≤ 900) (hv : vt.length ≤ 100)
    (hq1 : @Ne Nat sk top ∧ @Ne Nat sk it ∧ @Ne Nat top it) (hs1 : NeAll sk tw) (ht1 : NeAll top tw) (hil : items.length ≤ i) (hms : Txt.slice (marksOf items) (some (i : Int)) (some ((i : Int) + 1)) = Str.ofString "") (hq2 : @Ne Nat sk r ∧ @Ne Nat top r ∧ @Ne Nat r it) (hr1 : NeAll r tw) (hvr : vr.length ≤ 100)
    (finr : ∀ D h' tk' m' tt (t5 : Tok), (vt.length = 100 ∨ (vt.length < 100 ∧ vr.length = 100)) → Fr h₀ L h' m' → News h₀ L h' ((D, ({ cls := .type "tuple", data := .seq #[Value.none, .int ((i + 1 : Nat) : Int) tt] } : Obj)) ::  (it, W.listOf (items.map It.val).toArray ni) :: tw) → Q (.ret (.ref D)) { s with heap := h', toks := tk' })
    (fin : ∀ h' tk' m' t' (n' : Nat) (t5 : Tok), Fr h₀ L h' m' → m' (Str.ofString "at") = some (.int ((i + 1 : Nat) : Int) t') → m' (Str.ofString "stack") = some (.ref sk) → m' (Str.ofString "items") = some (.ref it) → m' (Str.ofString "marks") = some (.str (marksOf items) mt) → News h₀ L h' ((sk, W.listOf (refs ++ [Value.ref r]).toArray n') :: (r, W.listOf (vr ++ [Value.ref top]).toArray (nr + 1)) :: (top, W.listOf (vt ++ [(Value.bytes #[] t5)]).toArray (nt + 1)) :: (it, W.listOf (items.map It.val).toArray ni) :: tw) → vt.length < 100 → vr.length < 100 → Q .next { s with heap := h', toks := tk' }) :
    wpAny (model prog10 w) (rgA dp un gd L outer) (execs [nthS rgT 0, nthS rgT 1, nthS rgT 2, nthS rgT 3] (rgE L)) Q E s := by
  have hfill : PySem.Challenge.rw_dm0148_10.about = PySem.Challenge.rw_dm0148_10.about ∧ hd10.heap_39 = hd10.heap_39 := by k_fill; exact ⟨rfl, rfl⟩
  clear hfill
  refine wpAny_execs_cons ?_
  (conv in (exec _ _) => arg 1; whnf)
  w_strict (k_steps)
  (conv in (exec _ _) => arg 1; whnf)
  w_strict (k_steps)
  (conv in (exec _ _) => arg 1; whnf)
  w_strict (k_steps)
  (conv in (exec _ _) => arg 1; whnf)
  w_strict (k_steps)
  · (rename Fr h₀ L _ _ => kF)
    (rename News h₀ L _ _ => kN)
    exact finr _ _ _ _ _ 0 (by omega) kF (fun p hp => kN p (by rcases List.mem_cons.mp hp with rfl | hp; k_mem; rcases List.mem_cons.mp hp with rfl | hp; k_mem; (repeat (first | exact hp | refine List.Mem.tail _ ?_))))
  · (rename Fr h₀ L _ _ => kF)
    (rename News h₀ L _ _ => kN)
    exact finr _ _ _ _ _ 0 (by omega) kF (fun p hp => kN p (by rcases List.mem_cons.mp hp with rfl | hp; k_mem; rcases List.mem_cons.mp hp with rfl | hp; k_mem; (repeat (first | exact hp | refine List.Mem.tail _ ?_))))
  · (rename Fr h₀ L _ _ => kF)
    (rename News h₀ L _ _ => kN)
    exact fin _ _ _ _ _ _ kF (by rfl) (by rfl) (by rfl) (by rfl) (fun p hp => kN p (by rcases List.mem_cons.mp hp with rfl | hp; k_mem; rcases List.mem_cons.mp hp with rfl | hp; k_mem; rcases List.mem_cons.mp hp with rfl | hp; k_mem; rcases List.mem_cons.mp hp with rfl | hp; k_mem; (repeat (first | exact hp | refine List.Mem.tail _ ?_)))) (by omega) (by omega)
end Mine
end

-- ItR10
section
theorem Mine.offItR10 : True := by
  w_top off
  trivial
open PySem PySem.W PyProof.Rows PySem.Calls
set_option linter.unusedVariables false
namespace Mine
open Mine10
abbrev mapT (m : Str → Option Value) (mk : Str) (mt : Tok) (it nr : Addr) (k q : Int) (t1 t2 : Tok) : Str → Option Value := fun y => if y = Str.ofString "kind" then some (.int k t1) else if y = Str.ofString "more" then some (.int q t2) else mapI m mk mt it nr y
/-- lines and openings that one turn may add -/
def PlainIt : It → Prop
  | .op => True
  | .dot b _ => DotB b
  | .blank b _ => b = #[13, 10] ∨ b = #[10]
  | .err _ => False
structure PlainYs (ys : List It) : Prop where
  len : ys.length ≤ 6
  ops : ys.countP It.isOp ≤ 1
  ok : ∀ x ∈ ys, PlainIt x
theorem marks_app (items ys : List It) : marksOf items ++ marksOf ys = marksOf (items ++ ys) := by
  show Str.mk _ = Str.mk _
  simp
theorem plainOne {x : It} (h : PlainIt x) : PlainYs [x] :=
  ⟨by simp, by simp [List.countP_cons]; split <;> simp, fun y hy => by rw [List.mem_singleton.mp hy]; exact h⟩
theorem plainRep {b : Array UInt8} {t : Tok} {r : Nat} (h : DotB b) (hr : r ≤ 6) : PlainYs (List.replicate r (.dot b t)) :=
  ⟨by simpa using hr, by simp [List.countP_replicate, It.isOp], fun y hy => by rw [List.eq_of_mem_replicate hy]; exact h⟩
theorem news_tail {h₀ h : Heap} {L : Addr} {j : Addr × Obj} {r : List (Addr × Obj)} (N : News h₀ L h (j :: r)) : News h₀ L h r := fun p hp => N p (.tail _ hp)
abbrev setM (mm : Str → Option Value) (mk : Str) (t : Tok) : Str → Option Value := fun y => if y = Str.ofString "marks" then some (.str mk t) else mm y
theorem fin_one {h₀ h' : Heap} {L it : Addr} {rest : List (Addr × Obj)} {items : List It} {mm : Str → Option Value} {t : Tok} {ni : Nat} {c : Str} (x : It) (kF : Fr h₀ L h' (setM mm (marksOf items ++ c) t)) (hc : c = marksOf [x]) (kN : News h₀ L h' ((it, W.listOf (items.map It.val ++ [x.val]).toArray ni) :: rest)) :
    Fr h₀ L h' (setM mm (marksOf (items ++ [x])) t) ∧ News h₀ L h' ((it, W.listOf ((items ++ [x]).map It.val).toArray ni) :: rest) := by
  subst hc
  rw [marks_app] at kF
  refine ⟨kF, ?_⟩
  rw [List.map_append]
  exact kN
theorem fin_err {h₀ h' : Heap} {L it e : Addr} {oe : Obj} {rest : List (Addr × Obj)} {items : List It} {mm : Str → Option Value} {t : Tok} {ni : Nat} {c : Str} (kF : Fr h₀ L h' (setM mm (marksOf items ++ c) t)) (hc : c = marksOf [.err e]) (kN : News h₀ L h' ((e, oe) :: (it, W.listOf (items.map It.val ++ [Value.ref e]).toArray ni) :: rest)) :
    Fr h₀ L h' (setM mm (marksOf (items ++ [It.err e])) t) ∧ News h₀ L h' ((e, oe) :: (it, W.listOf ((items ++ [It.err e]).map It.val).toArray ni) :: rest) := by
  subst hc
  rw [marks_app] at kF
  refine ⟨kF, ?_⟩
  rw [List.map_append]
  exact kN
theorem dots_mul (n : Int) (b : Array UInt8) (u : Tok) : Txt.mul (Str.ofString ".") n = marksOf (List.replicate n.toNat (.dot b u)) := by
  have e : Str.ofString "." = ⟨#[46]⟩ := by decide
  rw [e]
  have z := mul_one_list 46 n
  generalize Txt.mul ⟨#[46]⟩ n = y at z
  obtain ⟨cps⟩ := y
  have : cps = (List.replicate n.toNat 46).toArray := by rw [← z]
  rw [this]
  show Str.mk _ = Str.mk _
  simp [It.mark]
theorem fin_rep {h₀ h' : Heap} {L it : Addr} {rest : List (Addr × Obj)} {items : List It} {mm : Str → Option Value} {t : Tok} {ni : Nat} {n : Int} {b : Array UInt8} {u : Tok} (kF : Fr h₀ L h' (setM mm (marksOf items ++ Txt.mul (Str.ofString ".") n) t)) (kN : News h₀ L h' ((it, W.listOf (items.map It.val ++ List.replicate n.toNat (Value.bytes b u)).toArray ni) :: rest)) :
    Fr h₀ L h' (setM mm (marksOf (items ++ List.replicate n.toNat (It.dot b u))) t) ∧ News h₀ L h' ((it, W.listOf ((items ++ List.replicate n.toNat (It.dot b u)).map It.val).toArray ni) :: rest) := by
  rw [dots_mul n b u, marks_app] at kF
  refine ⟨kF, ?_⟩
  rw [List.map_append, List.map_replicate]
  exact kN
theorem dotC (x : UInt8) : DotB #[99, x] := ⟨by simp, by simp, by simp, by simp⟩
theorem near_item {prog : Program} {w : World} {A : Around} {E : Value → Shared → Prop} {s : Shared} {h₀ : Heap} {L D : Addr} {news : List (Addr × Obj)} {vs : List Value} {q : Int} {n : Nat} {u : Tok} {value slice : Expr} {Q : Value → Shared → Prop} (N : News h₀ L s.heap news) (hm : (D, W.listOf (List.toArray vs) n) ∈ news) (hl : vs.length = 8) (hok : NearOk vs) (h : ∀ b t, DotB b → Q (.bytes b t) s)
    (hs : subscripted slice false (.ref D) (.int (q.fmod 8) u) = operate [.ref D, .int (q.fmod 8) u] (getItem (.ref D) (.int (q.fmod 8) u))) : wpAny (model prog w) A (subscriptTail value slice (.ref D) (.int (q.fmod 8) u)) Q E s := by
  have hL : s.heap.IsList D (List.toArray vs) := ⟨_, (N _ hm).1, rfl, n, rfl⟩
  have b1 := fmod_lo q (n := 8) (by decide)
  have b2 := fmod_hi q (n := 8) (by decide)
  have hi : (q.fmod 8).toNat < vs.length := by omega
  obtain ⟨b, t, e, hb⟩ := hok _ (List.getElem_mem hi)
  refine tail_any hL.typeIs slot_list_getitem.lookup (wpAny_getItem_list (x := vs[(q.fmod 8).toNat]) hL (by omega) (by omega) ?_ (e ▸ h b t hb)) hs
  simp [hi]
theorem err_step {w : World} {mean : ExcName → Option Value} {mg mb : Str → Option Value} {dp un : Nat} {gd : Option (List Code)} {outer : List Env} {A₀ : Around} {base h₀ : Heap} {L it nr : Addr} {io no : Obj} {m : Str → Option Value} {s : Shared} {Q : Value → Shared → Prop} {E : Value → Shared → Prop} {q : Int} {u : Tok} {tw : List (Addr × Obj)}
    (B : Below A₀ base outer h₀) (F : Fr h₀ L s.heap m) (X : (hd10.heap_39 w.params).In h₀) (T : Top topProg loose10 mean mg mb h₀) (C : CodeHd base 138 134) (hdp : dp + 40 < recursionLimit) (hun : un + 400 < cLine) (N : News h₀ L s.heap ((it, io) :: (nr, no) :: tw))
    (h : ∀ e oe h' tk', Fr h₀ L h' m → News h₀ L h' ((e, oe) :: (it, io) :: (nr, no) :: tw) → @Ne Nat it e → @Ne Nat nr e → NeAll e tw → Good w.params oe e → Q (.ref e) { s with heap := h', toks := tk' }) :
    wpAny (model prog10 w) (itA dp un gd L outer) (call (.ref 125) [.int (q.fmod 10) u]) Q E s := by
  have b1 := fmod_lo q (n := 10) (by decide)
  have b2 := fmod_hi q (n := 10) (by decide)
  have e : q.fmod 10 = ((q.fmod 10).toNat : Int) := by omega
  rw [e]
  refine err_call B F X T C it_kind (by omega) (by omega) (by omega) Q E fun x oe h' tk' kp n hx G => ?_
  have ne : ∀ p ∈ (it, io) :: (nr, no) :: tw, p.1 ≠ x := fun p hp z => by have := (N p hp).1; rw [z, n] at this; cases this
  have old : h₀.get? x = none := none_of F.keep n
  have hL : x ≠ L := fun z => by
    obtain ⟨oL, es, ep, hL, r⟩ := F.ns
    rw [← z, n] at hL
    cases hL
  refine h x oe h' tk' (fr_kp F kp) (fun p hp => ?_) (ne _ (.head _)) (ne _ (.tail _ (.head _))) (fun p hp => ne p (.tail _ (.tail _ hp))) G
  rcases List.mem_cons.mp hp with rfl | hp
  · exact ⟨hx, hL, old⟩
  · exact news_kp N kp p hp
theorem rep_one {prog : Program} {w : World} {A : Around} {E : Value → Shared → Prop} {s : Shared} {h₀ : Heap} {L l : Addr} {m : Str → Option Value} {news : List (Addr × Obj)} {v : Value} {q : Int} {n : Nat} {u : Tok} {Q : Value → Shared → Prop} (Fm : Fr h₀ L s.heap m) (N : News h₀ L s.heap news) (hm : (l, W.listOf #[v] n) ∈ news)
    (h : ∀ D h', Fr h₀ L h' m → News h₀ L h' ((D, W.listOf (List.toArray (List.replicate (1 + q.fmod 6).toNat v)) 0) :: news) → (∀ p ∈ news, p.1 < D) → Q (.ref D) { s with heap := h' }) : wpAny (model prog w) A (binaryOp .Mult (.ref l) (.int (1 + q.fmod 6) u)) Q E s := by
  have b1 := fmod_lo q (n := 6) (by decide)
  have b2 := fmod_hi q (n := 6) (by decide)
  have hl : s.heap.IsList l (List.toArray [v]) := ⟨_, (N _ hm).1, rfl, n, rfl⟩
  exact KMa.mul Fm N hl (by omega) (by omega) (by simp; omega) (by simp) h
theorem ext_rep {prog : Program} {w : World} {A : Around} {E : Value → Shared → Prop} {s : Shared} {h₀ : Heap} {L D b : Addr} {m : Str → Option Value} {news news' : List (Addr × Obj)} {v : Value} {vs : List Value} {q : Int} {n : Nat} {Q : Value → Shared → Prop} (F : Fr h₀ L s.heap m) (N : News h₀ L s.heap news) (hb : (b, W.listOf (List.toArray (List.replicate (1 + q.fmod 6).toNat v)) 0) ∈ news)
    (U : Upd D (W.listOf vs.toArray n) (W.listOf (vs ++ List.replicate (1 + q.fmod 6).toNat v).toArray (n + 1)) news news') (hz : vs.length ≤ 1000) (h : ∀ h', Fr h₀ L h' m → News h₀ L h' news' → Q .none { s with heap := h' }) : wpAny (model prog w) A (call (.builtin "list.extend") [.ref D, .ref b]) Q E s := by
  have b1 := fmod_lo q (n := 6) (by decide)
  have b2 := fmod_hi q (n := 6) (by decide)
  refine kl_extend (its := vs.toArray) (n := n) (news' := news') (l := vs ++ List.replicate (1 + q.fmod 6).toNat v) F N hb (by simp) (by simp; omega) U ?_ (by simp [sizeLine_eq]; omega) (by simp [sizeLine_eq]; omega) h
  simp [Builtin.List.listTooLong, sizeLine_eq]
  omega
end Mine
end

-- ItK10
section
theorem Mine.offItK10 : True := by
  w_top off
  trivial
open PySem PySem.W PyProof.Rows PySem.Calls
set_option linter.unusedVariables false
namespace Mine
open Mine10
local macro_rules | `(tactic| k_all) => `(tactic| exact NeAll.out (by assumption))
local macro_rules | `(tactic| walk_at "call builtin:list.append") => `(tactic| (k_here; k_dflt (refine append_KL (by k_asm) (by k_asm) (by k_upd) (by (simp; omega)) ?_; k_whole); intro _ _ _))
local macro_rules | `(tactic| walk_at "call builtin:list.extend") => `(tactic| (k_here; k_dflt (refine ext_rep (by k_asm) (by k_asm) (by k_mem) (by k_upd) (by (simp; omega)) ?_; k_whole); intro _ _ _))
local macro_rules | `(tactic| walk_at "binaryOp Mult ref int") => `(tactic| (k_here; k_dflt (refine rep_one (by k_asm) (by k_asm) (by k_mem) ?_; k_whole); intro _ _ _ _ l1; (try k_lt l1)))
local macro_rules | `(tactic| walk_at "subscriptTail Name BinOp ref int") => `(tactic| (k_here; k_dflt (refine near_item (by k_asm) (by k_mem) (by assumption) (by assumption) ?_ (by with_unfolding_all rfl); k_whole); intro _ _ _))
local macro_rules | `(tactic| walk_at "call ref") => `(tactic| (k_here; k_dflt (refine err_step (s := ⟨_, _, _, _, _⟩) (by k_asm) (by k_asm) (by k_asm) (by k_asm) (by assumption) (by assumption) (by assumption) (by k_asm) ?_; k_whole); intro _ _ _ _ _ _ _ _ _ _))
set_option maxRecDepth 100000 in
set_option maxHeartbeats 1000000 in
theorem it_k0 {w : World} {mean : ExcName → Option Value} {mg mb : Str → Option Value} {dp un : Nat} {gd : Option (List Code)} {outer : List Env} {A₀ : Around} {base h₀ : Heap} {L it nr : Addr} {m : Str → Option Value} {s : Shared} {Q : Flow → Shared → Prop} {E : Value → Shared → Prop} {items : List It} {nl : List Value} {ni nn : Nat} {mt t1 t2 : Tok} {q : Int} {tw : List (Addr × Obj)}
    (B : Below A₀ base outer h₀) (F : Fr h₀ L s.heap (mapT m (marksOf items) mt it nr 0 q t1 t2)) (X : (hd10.heap_39 w.params).In h₀) (T : Top topProg loose10 mean mg mb h₀) (C : CodeHd base 138 134) (hdp : dp + 40 < recursionLimit) (hun : un + 400 < cLine) (N : News h₀ L s.heap ((it, W.listOf (items.map It.val).toArray ni) :: (nr, W.listOf (List.toArray nl) nn) :: tw)) (hlen : items.length ≤ 900) (hnl : nl.length = 8) (hok : NearOk nl) (hr : @Ne Nat nr it) (hne : NeAll it tw)
    (fin : ∀ ys ni' mt' h' tk', PlainYs ys → Fr h₀ L h' (setM (mapT m (marksOf items) mt it nr 0 q t1 t2) (marksOf (items ++ ys)) mt') → News h₀ L h' ((it, W.listOf ((items ++ ys).map It.val).toArray ni') :: (nr, W.listOf (List.toArray nl) nn) :: tw) → Q .next { s with heap := h', toks := tk' }) :
    wpAny (model prog10 w) (itA dp un gd L outer) (execs [nthS itT 1, nthS itT 2] (itE L)) Q E s := by
  have hfill : PySem.Challenge.rw_dm0148_10.about = PySem.Challenge.rw_dm0148_10.about ∧ hd10.heap_39 = hd10.heap_39 := by k_fill; exact ⟨rfl, rfl⟩
  clear hfill
  have hml := marks_len items
  conv in (execs _ _) => arg 1; arg 1; whnf
  conv in (execs _ _) => arg 1; arg 2; arg 1; whnf
  w_strict (k_steps)
  rename Fr h₀ L _ _ => kF
  rename News h₀ L _ _ => kN
  have z := fin_one (.blank #[10] _) kF (by kernel_rfl) (news_tail kN)
  exact fin _ _ _ _ _ (plainOne (x := .blank #[10] _) (Or.inr rfl)) z.1 z.2
set_option maxRecDepth 100000 in
set_option maxHeartbeats 1000000 in
theorem it_k1 {w : World} {mean : ExcName → Option Value} {mg mb : Str → Option Value} {dp un : Nat} {gd : Option (List Code)} {outer : List Env} {A₀ : Around} {base h₀ : Heap} {L it nr : Addr} {m : Str → Option Value} {s : Shared} {Q : Flow → Shared → Prop} {E : Value → Shared → Prop} {items : List It} {nl : List Value} {ni nn : Nat} {mt t1 t2 : Tok} {q : Int} {tw : List (Addr × Obj)}
    (B : Below A₀ base outer h₀) (F : Fr h₀ L s.heap (mapT m (marksOf items) mt it nr 1 q t1 t2)) (X : (hd10.heap_39 w.params).In h₀) (T : Top topProg loose10 mean mg mb h₀) (C : CodeHd base 138 134) (hdp : dp + 40 < recursionLimit) (hun : un + 400 < cLine) (N : News h₀ L s.heap ((it, W.listOf (items.map It.val).toArray ni) :: (nr, W.listOf (List.toArray nl) nn) :: tw)) (hlen : items.length ≤ 900) (hnl : nl.length = 8) (hok : NearOk nl) (hr : @Ne Nat nr it) (hne : NeAll it tw)
    (fin : ∀ ys ni' mt' h' tk', PlainYs ys → Fr h₀ L h' (setM (mapT m (marksOf items) mt it nr 1 q t1 t2) (marksOf (items ++ ys)) mt') → News h₀ L h' ((it, W.listOf ((items ++ ys).map It.val).toArray ni') :: (nr, W.listOf (List.toArray nl) nn) :: tw) → Q .next { s with heap := h', toks := tk' }) :
    wpAny (model prog10 w) (itA dp un gd L outer) (execs [nthS itT 1, nthS itT 2] (itE L)) Q E s := by
  have hfill : PySem.Challenge.rw_dm0148_10.about = PySem.Challenge.rw_dm0148_10.about ∧ hd10.heap_39 = hd10.heap_39 := by k_fill; exact ⟨rfl, rfl⟩
  clear hfill
  have hml := marks_len items
  conv in (execs _ _) => arg 1; arg 1; whnf
  conv in (execs _ _) => arg 1; arg 2; arg 1; whnf
  w_strict (k_steps)
  rename Fr h₀ L _ _ => kF
  rename News h₀ L _ _ => kN
  have z := fin_one (.blank #[13, 10] _) kF (by kernel_rfl) (news_tail kN)
  exact fin _ _ _ _ _ (plainOne (x := .blank #[13, 10] _) (Or.inl rfl)) z.1 z.2
set_option maxRecDepth 100000 in
set_option maxHeartbeats 1000000 in
theorem it_k2 {w : World} {mean : ExcName → Option Value} {mg mb : Str → Option Value} {dp un : Nat} {gd : Option (List Code)} {outer : List Env} {A₀ : Around} {base h₀ : Heap} {L it nr : Addr} {m : Str → Option Value} {s : Shared} {Q : Flow → Shared → Prop} {E : Value → Shared → Prop} {items : List It} {nl : List Value} {ni nn : Nat} {mt t1 t2 : Tok} {q : Int} {tw : List (Addr × Obj)}
    (B : Below A₀ base outer h₀) (F : Fr h₀ L s.heap (mapT m (marksOf items) mt it nr 2 q t1 t2)) (X : (hd10.heap_39 w.params).In h₀) (T : Top topProg loose10 mean mg mb h₀) (C : CodeHd base 138 134) (hdp : dp + 40 < recursionLimit) (hun : un + 400 < cLine) (N : News h₀ L s.heap ((it, W.listOf (items.map It.val).toArray ni) :: (nr, W.listOf (List.toArray nl) nn) :: tw)) (hlen : items.length ≤ 900) (hnl : nl.length = 8) (hok : NearOk nl) (hr : @Ne Nat nr it) (hne : NeAll it tw)
    (fin : ∀ ys ni' mt' h' tk', PlainYs ys → Fr h₀ L h' (setM (mapT m (marksOf items) mt it nr 2 q t1 t2) (marksOf (items ++ ys)) mt') → News h₀ L h' ((it, W.listOf ((items ++ ys).map It.val).toArray ni') :: (nr, W.listOf (List.toArray nl) nn) :: tw) → Q .next { s with heap := h', toks := tk' }) :
    wpAny (model prog10 w) (itA dp un gd L outer) (execs [nthS itT 1, nthS itT 2] (itE L)) Q E s := by
  have hfill : PySem.Challenge.rw_dm0148_10.about = PySem.Challenge.rw_dm0148_10.about ∧ hd10.heap_39 = hd10.heap_39 := by k_fill; exact ⟨rfl, rfl⟩
  clear hfill
  have hml := marks_len items
  conv in (execs _ _) => arg 1; arg 1; whnf
  conv in (execs _ _) => arg 1; arg 2; arg 1; whnf
  w_strict (k_steps)
  rename Fr h₀ L _ _ => kF
  rename News h₀ L _ _ => kN
  have z := fin_one (.op) kF (by kernel_rfl) kN
  exact fin _ _ _ _ _ (plainOne (x := .op) (trivial)) z.1 z.2
set_option maxRecDepth 100000 in
set_option maxHeartbeats 1000000 in
theorem it_k3 {w : World} {mean : ExcName → Option Value} {mg mb : Str → Option Value} {dp un : Nat} {gd : Option (List Code)} {outer : List Env} {A₀ : Around} {base h₀ : Heap} {L it nr : Addr} {m : Str → Option Value} {s : Shared} {Q : Flow → Shared → Prop} {E : Value → Shared → Prop} {items : List It} {nl : List Value} {ni nn : Nat} {mt t1 t2 : Tok} {q : Int} {tw : List (Addr × Obj)}
    (B : Below A₀ base outer h₀) (F : Fr h₀ L s.heap (mapT m (marksOf items) mt it nr 3 q t1 t2)) (X : (hd10.heap_39 w.params).In h₀) (T : Top topProg loose10 mean mg mb h₀) (C : CodeHd base 138 134) (hdp : dp + 40 < recursionLimit) (hun : un + 400 < cLine) (N : News h₀ L s.heap ((it, W.listOf (items.map It.val).toArray ni) :: (nr, W.listOf (List.toArray nl) nn) :: tw)) (hlen : items.length ≤ 900) (hnl : nl.length = 8) (hok : NearOk nl) (hr : @Ne Nat nr it) (hne : NeAll it tw)
    (fin : ∀ ys ni' mt' h' tk', PlainYs ys → Fr h₀ L h' (setM (mapT m (marksOf items) mt it nr 3 q t1 t2) (marksOf (items ++ ys)) mt') → News h₀ L h' ((it, W.listOf ((items ++ ys).map It.val).toArray ni') :: (nr, W.listOf (List.toArray nl) nn) :: tw) → Q .next { s with heap := h', toks := tk' }) :
    wpAny (model prog10 w) (itA dp un gd L outer) (execs [nthS itT 1, nthS itT 2] (itE L)) Q E s := by
  have hfill : PySem.Challenge.rw_dm0148_10.about = PySem.Challenge.rw_dm0148_10.about ∧ hd10.heap_39 = hd10.heap_39 := by k_fill; exact ⟨rfl, rfl⟩
  clear hfill
  have hml := marks_len items
  conv in (execs _ _) => arg 1; arg 1; whnf
  conv in (execs _ _) => arg 1; arg 2; arg 1; whnf
  w_strict (k_steps)
  rename Fr h₀ L _ _ => kF
  rename News h₀ L _ _ => kN
  have z := fin_one (.op) kF (by kernel_rfl) kN
  exact fin _ _ _ _ _ (plainOne (x := .op) (trivial)) z.1 z.2
set_option maxRecDepth 100000 in
set_option maxHeartbeats 1000000 in
theorem it_k4 {w : World} {mean : ExcName → Option Value} {mg mb : Str → Option Value} {dp un : Nat} {gd : Option (List Code)} {outer : List Env} {A₀ : Around} {base h₀ : Heap} {L it nr : Addr} {m : Str → Option Value} {s : Shared} {Q : Flow → Shared → Prop} {E : Value → Shared → Prop} {items : List It} {nl : List Value} {ni nn : Nat} {mt t1 t2 : Tok} {q : Int} {tw : List (Addr × Obj)}
    (B : Below A₀ base outer h₀) (F : Fr h₀ L s.heap (mapT m (marksOf items) mt it nr 4 q t1 t2)) (X : (hd10.heap_39 w.params).In h₀) (T : Top topProg loose10 mean mg mb h₀) (C : CodeHd base 138 134) (hdp : dp + 40 < recursionLimit) (hun : un + 400 < cLine) (N : News h₀ L s.heap ((it, W.listOf (items.map It.val).toArray ni) :: (nr, W.listOf (List.toArray nl) nn) :: tw)) (hlen : items.length ≤ 900) (hnl : nl.length = 8) (hok : NearOk nl) (hr : @Ne Nat nr it) (hne : NeAll it tw)
    (fin : ∀ ys ni' mt' h' tk', PlainYs ys → Fr h₀ L h' (setM (mapT m (marksOf items) mt it nr 4 q t1 t2) (marksOf (items ++ ys)) mt') → News h₀ L h' ((it, W.listOf ((items ++ ys).map It.val).toArray ni') :: (nr, W.listOf (List.toArray nl) nn) :: tw) → Q .next { s with heap := h', toks := tk' }) :
    wpAny (model prog10 w) (itA dp un gd L outer) (execs [nthS itT 1, nthS itT 2] (itE L)) Q E s := by
  have hfill : PySem.Challenge.rw_dm0148_10.about = PySem.Challenge.rw_dm0148_10.about ∧ hd10.heap_39 = hd10.heap_39 := by k_fill; exact ⟨rfl, rfl⟩
  clear hfill
  have hml := marks_len items
  conv in (execs _ _) => arg 1; arg 1; whnf
  conv in (execs _ _) => arg 1; arg 2; arg 1; whnf
  w_strict (k_steps)
  rename Fr h₀ L _ _ => kF
  rename News h₀ L _ _ => kN
  have z := fin_one (.dot _ _) kF (by kernel_rfl) kN
  exact fin _ _ _ _ _ (plainOne (x := .dot _ _) (by assumption)) z.1 z.2
set_option maxRecDepth 100000 in
set_option maxHeartbeats 1000000 in
theorem it_k5 {w : World} {mean : ExcName → Option Value} {mg mb : Str → Option Value} {dp un : Nat} {gd : Option (List Code)} {outer : List Env} {A₀ : Around} {base h₀ : Heap} {L it nr : Addr} {m : Str → Option Value} {s : Shared} {Q : Flow → Shared → Prop} {E : Value → Shared → Prop} {items : List It} {nl : List Value} {ni nn : Nat} {mt t1 t2 : Tok} {q : Int} {tw : List (Addr × Obj)}
    (B : Below A₀ base outer h₀) (F : Fr h₀ L s.heap (mapT m (marksOf items) mt it nr 5 q t1 t2)) (X : (hd10.heap_39 w.params).In h₀) (T : Top topProg loose10 mean mg mb h₀) (C : CodeHd base 138 134) (hdp : dp + 40 < recursionLimit) (hun : un + 400 < cLine) (N : News h₀ L s.heap ((it, W.listOf (items.map It.val).toArray ni) :: (nr, W.listOf (List.toArray nl) nn) :: tw)) (hlen : items.length ≤ 900) (hnl : nl.length = 8) (hok : NearOk nl) (hr : @Ne Nat nr it) (hne : NeAll it tw)
    (fin : ∀ e oe ni' mt' h' tk', Good w.params oe e → @Ne Nat it e → @Ne Nat nr e → NeAll e tw → Fr h₀ L h' (setM (mapT m (marksOf items) mt it nr 5 q t1 t2) (marksOf (items ++ [It.err e])) mt') → News h₀ L h' ((e, oe) :: (it, W.listOf ((items ++ [It.err e]).map It.val).toArray ni') :: (nr, W.listOf (List.toArray nl) nn) :: tw) → Q .next { s with heap := h', toks := tk' }) :
    wpAny (model prog10 w) (itA dp un gd L outer) (execs [nthS itT 1, nthS itT 2] (itE L)) Q E s := by
  have hfill : PySem.Challenge.rw_dm0148_10.about = PySem.Challenge.rw_dm0148_10.about ∧ hd10.heap_39 = hd10.heap_39 := by k_fill; exact ⟨rfl, rfl⟩
  clear hfill
  have hml := marks_len items
  conv in (execs _ _) => arg 1; arg 1; whnf
  conv in (execs _ _) => arg 1; arg 2; arg 1; whnf
  w_strict (k_steps)
  rename Fr h₀ L _ _ => kF
  rename News h₀ L _ _ => kN
  have z := fin_err kF (by kernel_rfl) kN
  exact fin _ _ _ _ _ _ (by assumption) (by assumption) (by assumption) (by assumption) z.1 z.2
set_option maxRecDepth 100000 in
set_option maxHeartbeats 1000000 in
theorem it_k6 {w : World} {mean : ExcName → Option Value} {mg mb : Str → Option Value} {dp un : Nat} {gd : Option (List Code)} {outer : List Env} {A₀ : Around} {base h₀ : Heap} {L it nr : Addr} {m : Str → Option Value} {s : Shared} {Q : Flow → Shared → Prop} {E : Value → Shared → Prop} {items : List It} {nl : List Value} {ni nn : Nat} {mt t1 t2 : Tok} {q : Int} {tw : List (Addr × Obj)}
    (B : Below A₀ base outer h₀) (F : Fr h₀ L s.heap (mapT m (marksOf items) mt it nr 6 q t1 t2)) (X : (hd10.heap_39 w.params).In h₀) (T : Top topProg loose10 mean mg mb h₀) (C : CodeHd base 138 134) (hdp : dp + 40 < recursionLimit) (hun : un + 400 < cLine) (N : News h₀ L s.heap ((it, W.listOf (items.map It.val).toArray ni) :: (nr, W.listOf (List.toArray nl) nn) :: tw)) (hlen : items.length ≤ 900) (hnl : nl.length = 8) (hok : NearOk nl) (hr : @Ne Nat nr it) (hne : NeAll it tw)
    (fin : ∀ ys ni' mt' h' tk', PlainYs ys → Fr h₀ L h' (setM (mapT m (marksOf items) mt it nr 6 q t1 t2) (marksOf (items ++ ys)) mt') → News h₀ L h' ((it, W.listOf ((items ++ ys).map It.val).toArray ni') :: (nr, W.listOf (List.toArray nl) nn) :: tw) → Q .next { s with heap := h', toks := tk' }) :
    wpAny (model prog10 w) (itA dp un gd L outer) (execs [nthS itT 1, nthS itT 2] (itE L)) Q E s := by
  have hfill : PySem.Challenge.rw_dm0148_10.about = PySem.Challenge.rw_dm0148_10.about ∧ hd10.heap_39 = hd10.heap_39 := by k_fill; exact ⟨rfl, rfl⟩
  clear hfill
  have hml := marks_len items
  conv in (execs _ _) => arg 1; arg 1; whnf
  conv in (execs _ _) => arg 1; arg 2; arg 1; whnf
  w_strict (k_steps)
  rename Fr h₀ L _ _ => kF
  rename News h₀ L _ _ => kN
  have z := fin_one (.dot #[99, _] _) kF (by kernel_rfl) (news_tail kN)
  exact fin _ _ _ _ _ (plainOne (x := .dot #[99, _] _) (dotC _)) z.1 z.2
set_option maxRecDepth 100000 in
set_option maxHeartbeats 1000000 in
theorem it_k7 {w : World} {mean : ExcName → Option Value} {mg mb : Str → Option Value} {dp un : Nat} {gd : Option (List Code)} {outer : List Env} {A₀ : Around} {base h₀ : Heap} {L it nr : Addr} {m : Str → Option Value} {s : Shared} {Q : Flow → Shared → Prop} {E : Value → Shared → Prop} {items : List It} {nl : List Value} {ni nn : Nat} {mt t1 t2 : Tok} {q : Int} {tw : List (Addr × Obj)}
    (B : Below A₀ base outer h₀) (F : Fr h₀ L s.heap (mapT m (marksOf items) mt it nr 7 q t1 t2)) (X : (hd10.heap_39 w.params).In h₀) (T : Top topProg loose10 mean mg mb h₀) (C : CodeHd base 138 134) (hdp : dp + 40 < recursionLimit) (hun : un + 400 < cLine) (N : News h₀ L s.heap ((it, W.listOf (items.map It.val).toArray ni) :: (nr, W.listOf (List.toArray nl) nn) :: tw)) (hlen : items.length ≤ 900) (hnl : nl.length = 8) (hok : NearOk nl) (hr : @Ne Nat nr it) (hne : NeAll it tw)
    (fin : ∀ ys ni' mt' h' tk', PlainYs ys → Fr h₀ L h' (setM (mapT m (marksOf items) mt it nr 7 q t1 t2) (marksOf (items ++ ys)) mt') → News h₀ L h' ((it, W.listOf ((items ++ ys).map It.val).toArray ni') :: (nr, W.listOf (List.toArray nl) nn) :: tw) → Q .next { s with heap := h', toks := tk' }) :
    wpAny (model prog10 w) (itA dp un gd L outer) (execs [nthS itT 1, nthS itT 2] (itE L)) Q E s := by
  have hfill : PySem.Challenge.rw_dm0148_10.about = PySem.Challenge.rw_dm0148_10.about ∧ hd10.heap_39 = hd10.heap_39 := by k_fill; exact ⟨rfl, rfl⟩
  clear hfill
  have hml := marks_len items
  conv in (execs _ _) => arg 1; arg 1; whnf
  conv in (execs _ _) => arg 1; arg 2; arg 1; whnf
  w_strict (k_steps)
  rename Fr h₀ L _ _ => kF
  rename News h₀ L _ _ => kN
  have z := fin_rep kF (news_tail (news_tail kN))
  have b1 := fmod_lo q (n := 6) (by decide)
  have b2 := fmod_hi q (n := 6) (by decide)
  exact fin _ _ _ _ _ (plainRep (by decide) (by omega)) z.1 z.2
end Mine
end

-- ItF10
section
theorem Mine.offItF10 : True := by
  w_top off
  trivial
open PySem PySem.W PyProof.Rows PySem.Calls
set_option linter.unusedVariables false
namespace Mine
open Mine10
set_option maxRecDepth 100000 in
set_option maxHeartbeats 1000000 in
theorem it_pair {w : World} {mean : ExcName → Option Value} {mg mb : Str → Option Value} {dp un : Nat} {gd : Option (List Code)} {outer : List Env} {A₀ : Around} {base h₀ : Heap} {L : Addr} {m : Str → Option Value} {s : Shared} {Q : Flow → Shared → Prop} {E : Value → Shared → Prop} {t : Tok} {n : Int} {tw : List (Addr × Obj)}
    (B : Below A₀ base outer h₀) (F : Fr h₀ L s.heap (fun y => if y = Str.ofString "x" then some (.int n t) else m y)) (X : (hd10.heap_39 w.params).In h₀) (T : Top topProg loose10 mean mg mb h₀) (N : News h₀ L s.heap tw)
    (fin : ∀ t1 t2 h' tk', Fr h₀ L h' (fun y => if y = Str.ofString "kind" then some (.int (n.fmod 8) t1) else if y = Str.ofString "more" then some (.int (n.fdiv 8) t2) else if y = Str.ofString "x" then some (.int n t) else m y) → News h₀ L h' tw → Q .next { s with heap := h', toks := tk' }) :
    wpAny (model prog10 w) (itA dp un gd L outer) (exec (nthS itT 0) (itE L)) Q E s := by
  have hfill : PySem.Challenge.rw_dm0148_10.about = PySem.Challenge.rw_dm0148_10.about ∧ hd10.heap_39 = hd10.heap_39 := by k_fill; exact ⟨rfl, rfl⟩
  clear hfill
  conv in (exec _ _) => arg 1; whnf
  w_strict (k_steps)
  rename Fr h₀ L _ _ => kF
  rename News h₀ L _ _ => kN
  exact fin _ _ _ _ kF (news_tail kN)
set_option maxRecDepth 100000 in
set_option maxHeartbeats 1000000 in
theorem it_for {w : World} {mean : ExcName → Option Value} {mg mb : Str → Option Value} {dp un : Nat} {gd : Option (List Code)} {outer : List Env} {A₀ : Around} {base h₀ : Heap} {L sa : Addr} {m : Str → Option Value} {s : Shared} {Q : Flow → Shared → Prop} {E : Value → Shared → Prop} {tw : List (Addr × Obj)} {vs : List Value} {ns : List Int}
    (B : Below A₀ base outer h₀) (F : Fr h₀ L s.heap (fun y => if y = Str.ofString "script" then some (.ref sa) else m y)) (X : (hd10.heap_39 w.params).In h₀) (T : Top topProg loose10 mean mg mb h₀) (N : News h₀ L s.heap tw) (hE : PassesOwn (model prog10 w) (itA dp un gd L outer) (itE L) E)
    (hL : h₀.IsList sa vs.toArray) (hI : IntsAre vs ns) (hlen : ¬ (63 : Int) < ns.length)
    (rest : ∀ I D ws px hx tk, (∀ p ∈ (D, W.listOf (List.toArray ws) 0) :: tw, p.1 < I) → (∀ p ∈ tw, p.1 < D) → IntsAre ws (ns.take 63) → ItemsRest prog10 w (itA dp un gd L outer) E h₀ (itE L) (.Name (Str.ofString "x") px) itT Q { s with heap := hx, toks := tk } [(I, "list_iterator")] [(D, W.listOf (List.toArray ws) 0)] (ws.map .val) (fun y => if y = Str.ofString "script" then some (.ref sa) else m y) ((D, W.listOf (List.toArray ws) 0) :: tw)) :
    wpAny (model prog10 w) (itA dp un gd L outer) (exec itFor (itE L)) Q E s := by
  have hfill : PySem.Challenge.rw_dm0148_10.about = PySem.Challenge.rw_dm0148_10.about ∧ hd10.heap_39 = hd10.heap_39 := by k_fill; exact ⟨rfl, rfl⟩
  clear hfill
  conv in (exec _ _) => arg 1; whnf
  refine For_turns (env := itE L) F ?_ (by intro _; rfl) hE
  w_strict (k_steps)
  rename_i D ws h' F' N' l1 hI' hC' hL'
  exact iter_listTurns (env := itE L) (vs := ws) (n := 0) rfl F' N' (.head _) rfl rfl fun I hI => rest I D ws _ _ _ hI l1 hI'
/-- what the frame holds -/
structure FI (m : Str → Option Value) (mk : Str) (mt : Tok) (it nr : Addr) : Prop where
  marks : m (Str.ofString "marks") = some (.str mk mt)
  items : m (Str.ofString "items") = some (.ref it)
  near : m (Str.ofString "near") = some (.ref nr)
theorem mapT_eq {M : Str → Option Value} {mk : Str} {mt t1 t2 : Tok} {it nr : Addr} {k q : Int} (H : FI M mk mt it nr) (h1 : M (Str.ofString "kind") = some (.int k t1)) (h2 : M (Str.ofString "more") = some (.int q t2)) : M = mapT M mk mt it nr k q t1 t2 := by
  refine funext fun y => ?_
  unfold mapT mapI
  by_cases c1 : y = Str.ofString "kind"
  · subst c1; rw [if_pos rfl]; exact h1
  · rw [if_neg c1]
    by_cases c2 : y = Str.ofString "more"
    · subst c2; rw [if_pos rfl]; exact h2
    · rw [if_neg c2]
      by_cases c3 : y = Str.ofString "marks"
      · subst c3; rw [if_pos rfl]; exact H.marks
      · rw [if_neg c3]
        by_cases c4 : y = Str.ofString "items"
        · subst c4; rw [if_pos rfl]; exact H.items
        · rw [if_neg c4]
          by_cases c5 : y = Str.ofString "near"
          · subst c5; rw [if_pos rfl]; exact H.near
          · rw [if_neg c5]
theorem fi_set {m : Str → Option Value} {mk mk' : Str} {mt mt' t1 t2 : Tok} {it nr : Addr} {k q : Int} : FI (setM (mapT m mk mt it nr k q t1 t2) mk' mt') mk' mt' it nr := ⟨if_pos rfl, by rfl, by rfl⟩
theorem itT_eq : itT = [nthS itT 0, nthS itT 1, nthS itT 2] := by with_unfolding_all rfl
set_option maxRecDepth 100000 in
theorem it_turn {w : World} {mean : ExcName → Option Value} {mg mb : Str → Option Value} {dp un : Nat} {gd : Option (List Code)} {outer : List Env} {A₀ : Around} {base h₀ : Heap} {L it nr : Addr} {m : Str → Option Value} {s : Shared} {Q : Flow → Shared → Prop} {E : Value → Shared → Prop} {items : List It} {nl : List Value} {ni nn : Nat} {mt t : Tok} {n : Int} {tw : List (Addr × Obj)}
    (B : Below A₀ base outer h₀) (F : Fr h₀ L s.heap (fun y => if y = Str.ofString "x" then some (.int n t) else m y)) (H : FI m (marksOf items) mt it nr) (X : (hd10.heap_39 w.params).In h₀) (T : Top topProg loose10 mean mg mb h₀) (C : CodeHd base 138 134) (hdp : dp + 40 < recursionLimit) (hun : un + 400 < cLine) (N : News h₀ L s.heap ((it, W.listOf (items.map It.val).toArray ni) :: (nr, W.listOf (List.toArray nl) nn) :: tw)) (hlen : items.length ≤ 900) (hnl : nl.length = 8) (hok : NearOk nl) (hr : @Ne Nat nr it) (hne : NeAll it tw)
    (fin : ∀ ys ni' mt' h' tk' m', PlainYs ys → FI m' (marksOf (items ++ ys)) mt' it nr → Fr h₀ L h' m' → News h₀ L h' ((it, W.listOf ((items ++ ys).map It.val).toArray ni') :: (nr, W.listOf (List.toArray nl) nn) :: tw) → Q .next { s with heap := h', toks := tk' })
    (fine : ∀ e oe ni' mt' h' tk' m', Good w.params oe e → @Ne Nat it e → @Ne Nat nr e → NeAll e tw → FI m' (marksOf (items ++ [It.err e])) mt' it nr → Fr h₀ L h' m' → News h₀ L h' ((e, oe) :: (it, W.listOf ((items ++ [It.err e]).map It.val).toArray ni') :: (nr, W.listOf (List.toArray nl) nn) :: tw) → Q .next { s with heap := h', toks := tk' }) :
    wpAny (model prog10 w) (itA dp un gd L outer) (execs itT (itE L)) Q E s := by
  rw [itT_eq]
  refine wpAny_execs_cons (it_pair B F X T N fun t1 t2 h' tk' F1 N1 => ?_)
  dsimp only
  have b1 := fmod_lo n (n := 8) (by decide)
  have b2 := fmod_hi n (n := 8) (by decide)
  have hk : n.fmod 8 = 0 ∨ n.fmod 8 = 1 ∨ n.fmod 8 = 2 ∨ n.fmod 8 = 3 ∨ n.fmod 8 = 4 ∨ n.fmod 8 = 5 ∨ n.fmod 8 = 6 ∨ n.fmod 8 = 7 := by omega
  generalize n.fdiv 8 = q at F1
  generalize n.fmod 8 = k at F1 hk
  have H1 : FI (fun y => if y = Str.ofString "kind" then some (Value.int k t1) else if y = Str.ofString "more" then some (.int q t2) else if y = Str.ofString "x" then some (.int n t) else m y) (marksOf items) mt it nr :=
    ⟨(if_neg (by decide)).trans ((if_neg (by decide)).trans ((if_neg (by decide)).trans H.marks)), (if_neg (by decide)).trans ((if_neg (by decide)).trans ((if_neg (by decide)).trans H.items)), (if_neg (by decide)).trans ((if_neg (by decide)).trans ((if_neg (by decide)).trans H.near))⟩
  rw [mapT_eq H1 (if_pos rfl) ((if_neg (by decide)).trans (if_pos rfl))] at F1
  generalize (fun y => if y = Str.ofString "kind" then some (Value.int k t1) else if y = Str.ofString "more" then some (.int q t2) else if y = Str.ofString "x" then some (.int n t) else m y) = M at F1
  rcases hk with rfl | rfl | rfl | rfl | rfl | rfl | rfl | rfl
  · exact it_k0 (s := { s with heap := h', toks := tk' }) B F1 X T C hdp hun N1 hlen hnl hok hr hne fun ys ni' mt' h2 tk2 p f g => fin ys ni' mt' h2 tk2 _ p fi_set f g
  · exact it_k1 (s := { s with heap := h', toks := tk' }) B F1 X T C hdp hun N1 hlen hnl hok hr hne fun ys ni' mt' h2 tk2 p f g => fin ys ni' mt' h2 tk2 _ p fi_set f g
  · exact it_k2 (s := { s with heap := h', toks := tk' }) B F1 X T C hdp hun N1 hlen hnl hok hr hne fun ys ni' mt' h2 tk2 p f g => fin ys ni' mt' h2 tk2 _ p fi_set f g
  · exact it_k3 (s := { s with heap := h', toks := tk' }) B F1 X T C hdp hun N1 hlen hnl hok hr hne fun ys ni' mt' h2 tk2 p f g => fin ys ni' mt' h2 tk2 _ p fi_set f g
  · exact it_k4 (s := { s with heap := h', toks := tk' }) B F1 X T C hdp hun N1 hlen hnl hok hr hne fun ys ni' mt' h2 tk2 p f g => fin ys ni' mt' h2 tk2 _ p fi_set f g
  · exact it_k5 (s := { s with heap := h', toks := tk' }) B F1 X T C hdp hun N1 hlen hnl hok hr hne fun e oe ni' mt' h2 tk2 a1 a2 a3 a4 f g => fine e oe ni' mt' h2 tk2 _ a1 a2 a3 a4 fi_set f g
  · exact it_k6 (s := { s with heap := h', toks := tk' }) B F1 X T C hdp hun N1 hlen hnl hok hr hne fun ys ni' mt' h2 tk2 p f g => fin ys ni' mt' h2 tk2 _ p fi_set f g
  · exact it_k7 (s := { s with heap := h', toks := tk' }) B F1 X T C hdp hun N1 hlen hnl hok hr hne fun ys ni' mt' h2 tk2 p f g => fin ys ni' mt' h2 tk2 _ p fi_set f g
end Mine
end

-- ItL10
section
theorem Mine.offItL10 : True := by
  w_top off
  trivial
open PySem PySem.W PyProof.Rows PySem.Calls
set_option linter.unusedVariables false
namespace Mine
open Mine10
def ItemOk (P : Params) (tw : List (Addr × Obj)) : It → Prop
  | .op => True
  | .dot b _ => DotB b
  | .blank b _ => b = #[13, 10] ∨ b = #[10]
  | .err e => ∃ oe, (e, oe) ∈ tw ∧ Good P oe e
def errOf : It → Option Addr
  | .err e => some e
  | _ => none
/-- the items after k turns; the errors lie in tw -/
structure ItOk (P : Params) (items : List It) (tw : List (Addr × Obj)) (k : Nat) : Prop where
  lo : 99 ≤ items.length
  hi : items.length ≤ 99 + 6 * k
  ops : items.countP It.isOp ≤ 1 + k
  ok : ∀ x ∈ items, ItemOk P tw x
  nd : (items.filterMap errOf).Nodup
theorem plain_itemOk {P : Params} {tw : List (Addr × Obj)} {x : It} (h : PlainIt x) : ItemOk P tw x := by
  cases x <;> first | exact h | exact h.elim
theorem ItemOk.more {P : Params} {tw tw' : List (Addr × Obj)} {x : It} (h : ItemOk P tw x) (hs : ∀ p ∈ tw, p ∈ tw') : ItemOk P tw' x := by
  cases x with
  | err e => obtain ⟨oe, a, b⟩ := h; exact ⟨oe, hs _ a, b⟩
  | _ => exact h
theorem plain_errs {ys : List It} (h : ∀ x ∈ ys, PlainIt x) : ys.filterMap errOf = [] := by
  rw [List.filterMap_eq_nil_iff]
  intro x hx
  have := h x hx
  cases x <;> first | rfl | exact this.elim
theorem ItOk.plain {P : Params} {items ys : List It} {tw : List (Addr × Obj)} {k : Nat} (H : ItOk P items tw k) (Y : PlainYs ys) : ItOk P (items ++ ys) tw (k + 1) where
  lo := by have := H.lo; simp; omega
  hi := by have := H.hi; have := Y.len; simp; omega
  ops := by have := H.ops; have := Y.ops; rw [List.countP_append]; omega
  ok := fun x hx => by
    rcases List.mem_append.mp hx with hx | hx
    · exact H.ok x hx
    · exact plain_itemOk (Y.ok x hx)
  nd := by rw [List.filterMap_append, plain_errs Y.ok, List.append_nil]; exact H.nd
theorem ItOk.err {P : Params} {items : List It} {tw : List (Addr × Obj)} {k : Nat} {e : Addr} {oe : Obj} (H : ItOk P items tw k) (G : Good P oe e) (ne : NeAll e tw) : ItOk P (items ++ [.err e]) ((e, oe) :: tw) (k + 1) where
  lo := by have := H.lo; simp; omega
  hi := by have := H.hi; simp; omega
  ops := by have := H.ops; rw [List.countP_append]; simp [It.isOp]; omega
  ok := fun x hx => by
    rcases List.mem_append.mp hx with hx | hx
    · exact (H.ok x hx).more fun p hp => .tail _ hp
    · rw [List.mem_singleton.mp hx]; exact ⟨oe, .head _, G⟩
  nd := by
    rw [List.filterMap_append, List.nodup_append]
    refine ⟨H.nd, by simp [errOf], fun a ha b hb => ?_⟩
    have hb' : b = e := by simpa [errOf] using hb
    subst hb'
    obtain ⟨x, hx, ex⟩ := List.mem_filterMap.mp ha
    have z := H.ok x hx
    cases x with
    | err e' =>
      cases ex
      obtain ⟨o', h1, _⟩ := z
      exact ne _ h1
    | _ => cases ex
theorem items0_ok (P : Params) (tk : Tok) : ItOk P (items0 tk) [] 0 where
  lo := by rw [items0_len]; exact Nat.le_refl _
  hi := by rw [items0_len]; exact Nat.le_refl _
  ops := by
    have e : (items0 tk).countP It.isOp = 1 := by kernel_rfl
    rw [e]
    exact Nat.le_refl _
  ok := fun x hx => by
    unfold items0 at hx
    simp only [List.mem_cons, List.mem_replicate] at hx
    rcases hx with rfl | rfl | rfl | ⟨_, rfl⟩
    · trivial
    · exact (by decide : DotB #[32, 10])
    · exact (by decide : DotB #[13])
    · exact (by decide : DotB #[104, 58, 32, 105, 10])
  nd := by
    have e : (items0 tk).filterMap errOf = [] := by kernel_rfl
    rw [e]
    exact List.nodup_nil
theorem ItOk.to {P : Params} {items : List It} {tw : List (Addr × Obj)} {k k' : Nat} (H : ItOk P items tw k) (h : k ≤ k') : ItOk P items tw k' := ⟨H.lo, by have := H.hi; omega, by have := H.ops; omega, H.ok, H.nd⟩
theorem news_set10 {h₀ h h' : Heap} {L : Addr} {news : List (Addr × Obj)} (N : News h₀ L h news) (sb : Heap.SameBut L h h') : News h₀ L h' news := fun p hp => ⟨(sb.2 _ (N p hp).2.1).trans (N p hp).1, (N p hp).2⟩
theorem x_local {L : Addr} : (itE L).kindOf (Str.ofString "x") = some .local := by kernel_rfl
theorem it_plain {L : Addr} : ((itE L).scope.kind == .class || ((itE L).scope.kind == .module && (itE L).locals != (itE L).globals)) = false := by kernel_rfl
section
variable {w : World} {mean : ExcName → Option Value} {mg mb : Str → Option Value} {dp un : Nat} {gd : Option (List Code)} {outer : List Env} {A₀ : Around} {base h₀ : Heap} {L it nr D I : Addr} {lo : Obj} {s : Shared} {Q : Flow → Shared → Prop} {E : Value → Shared → Prop} {nl : List Value} {nn : Nat} {px : Pos}
theorem items_rest (B : Below A₀ base outer h₀) (X : (hd10.heap_39 w.params).In h₀) (T : Top topProg loose10 mean mg mb h₀) (C : CodeHd base 138 134) (hdp : dp + 40 < recursionLimit) (hun : un + 400 < cLine) (hnl : nl.length = 8) (hok : NearOk nl) (hr : @Ne Nat nr it) (hDi : @Ne Nat D it) (hID : @Ne Nat D I) (hIi : @Ne Nat it I) (hIn : @Ne Nat nr I)
    (fin : ∀ items tw mt m ni h tk, ItOk w.params items tw 63 → FI m (marksOf items) mt it nr → Fr h₀ L h m → News h₀ L h ((D, lo) :: (it, W.listOf (items.map It.val).toArray ni) :: (nr, W.listOf (List.toArray nl) nn) :: tw) → NeAll it tw → Q .next { s with heap := h, toks := tk }) :
    ∀ {ws : List Value} {ns : List Int}, IntsAre ws ns → ∀ (items : List It) (tw : List (Addr × Obj)) (mt : Tok) (m : Str → Option Value) (ni k : Nat), k + ns.length ≤ 63 → ItOk w.params items tw k → FI m (marksOf items) mt it nr → NeAll it tw → NeAll I tw →
      ItemsRest prog10 w (itA dp un gd L outer) E h₀ (itE L) (.Name (Str.ofString "x") px) itT Q s [(I, "list_iterator")] [(D, lo)] (ws.map .val) m ((D, lo) :: (it, W.listOf (items.map It.val).toArray ni) :: (nr, W.listOf (List.toArray nl) nn) :: tw)
  | _, _, .nil, items, tw, mt, m, ni, k, hk, O, H, hit, hI => ItemsRest.zero fun h tk F N => fin items tw mt m ni h tk (O.to (by simpa using hk)) H F N hit
  | _, _, .cons n t (vs := vs) (ns := ns) hr', items, tw, mt, m, ni, k, hk, O, H, hit, hI => by
    have hk' : k + 1 + ns.length ≤ 63 := by have e : (n :: ns).length = ns.length + 1 := rfl; omega
    refine ItemsRest.val fun h tk F => AllObj.cons fun o ho => AllObj.nil fun N => ?_
    refine wpAny_assign_Name (wpAny_storeName_local (m := m) x_local F.ns (fun h1 n1 sb => ?_) it_plain)
    have F1 := F.set n1 sb
    have N1 := news_set10 N sb
    have N2 : News h₀ L h1 ((it, W.listOf (items.map It.val).toArray ni) :: (nr, W.listOf (List.toArray nl) nn) :: (I, o) :: (D, lo) :: tw) := fun p hp => N1 p (by
      simp only [List.cons_append, List.nil_append, List.mem_cons] at hp ⊢
      rcases hp with h | h | h | h | h
      · exact .inr (.inr (.inl h))
      · exact .inr (.inr (.inr (.inl h)))
      · exact .inl h
      · exact .inr (.inl h)
      · exact .inr (.inr (.inr (.inr h))))
    refine it_turn (s := ⟨h1, _, _, _, _⟩) (tw := (I, o) :: (D, lo) :: tw) B F1 H X T C hdp hun N2 (by have := O.hi; omega) hnl hok hr (neCons (Ne.symm hIi) (neCons hDi hit)) ?_ ?_
    · intro ys ni' mt' h' tk' m' Y H' F' N'
      refine ⟨h', tk', m', (D, lo) :: (it, W.listOf ((items ++ ys).map It.val).toArray ni') :: (nr, W.listOf (List.toArray nl) nn) :: tw, rfl, F', ?_, ?_, ⟨.head _, trivial⟩, ?_⟩
      · intro p hp
        refine N' p ?_
        simp only [List.cons_append, List.nil_append, List.mem_cons] at hp ⊢
        rcases hp with h | h | h | h | h
        · exact .inr (.inr (.inl h))
        · exact .inr (.inr (.inr (.inl h)))
        · exact .inl h
        · exact .inr (.inl h)
        · exact .inr (.inr (.inr (.inr h)))
      · intro p hp q hq
        rcases List.mem_cons.mp hq with rfl | hq
        · simp only [List.mem_cons] at hp
          rcases hp with rfl | rfl | rfl | hp
          · exact hID
          · exact hIi
          · exact hIn
          · exact hI p hp
        · cases hq
      · exact items_rest B X T C hdp hun hnl hok hr hDi hID hIi hIn fin hr' (items ++ ys) tw mt' m' ni' (k + 1) hk' (O.plain Y) H' hit hI
    · intro e oe ni' mt' h' tk' m' G a2 a3 a4 H' F' N'
      have ne1 : NeAll e tw := fun p hp => a4 p (.tail _ (.tail _ hp))
      have neI : @Ne Nat e I := Ne.symm (a4 (I, o) (.head _))
      refine ⟨h', tk', m', (D, lo) :: (it, W.listOf ((items ++ [It.err e]).map It.val).toArray ni') :: (nr, W.listOf (List.toArray nl) nn) :: (e, oe) :: tw, rfl, F', ?_, ?_, ⟨.head _, trivial⟩, ?_⟩
      · intro p hp
        refine N' p ?_
        simp only [List.cons_append, List.nil_append, List.mem_cons] at hp ⊢
        rcases hp with h | h | h | h | h | h
        · exact .inr (.inr (.inr (.inl h)))
        · exact .inr (.inr (.inr (.inr (.inl h))))
        · exact .inr (.inl h)
        · exact .inr (.inr (.inl h))
        · exact .inl h
        · exact .inr (.inr (.inr (.inr (.inr h))))
      · intro p hp q hq
        rcases List.mem_cons.mp hq with rfl | hq
        · simp only [List.mem_cons] at hp
          rcases hp with rfl | rfl | rfl | rfl | hp
          · exact hID
          · exact hIi
          · exact hIn
          · exact neI
          · exact hI p hp
        · cases hq
      · exact items_rest B X T C hdp hun hnl hok hr hDi hID hIi hIn fin hr' (items ++ [It.err e]) ((e, oe) :: tw) mt' m' ni' (k + 1) hk' (O.err G ne1) H' (neCons (Ne.symm a2) hit) (neCons neI hI)
end
end Mine
end

-- ItC10
section
theorem Mine.offItC10 : True := by
  w_top off
  trivial
open PySem PySem.W PyProof.Rows PySem.Calls
set_option linter.unusedVariables false
namespace Mine
open Mine10
theorem wpAny_execs_append {M : Model} {A : Around} {env : Env} {Q : Flow → Shared → Prop} {E : Value → Shared → Prop} {ys : List Stmt} : ∀ {xs : List Stmt} {s : Shared} (h : wpAny M A (execs xs env) (fun f s' => match f with | .next => wpAny M A (execs ys env) Q E s' | f => Q f s') E s), wpAny M A (execs (xs ++ ys) env) Q E s := by
  intro xs s h Γ p hΓ
  replace h := h Γ p hΓ
  induction xs generalizing s p with
  | nil =>
    rw [execs_nil] at h
    exact h Γ p hΓ
  | cons x xs ih =>
    rw [List.cons_append, execs_cons, Sem.wp_bind']
    rw [execs_cons, Sem.wp_bind'] at h
    refine Sem.wp_mono M Γ _ (fun f p' s' h' => ?_) (fun _ _ _ h' => h') _ _ h
    cases f <;> first | exact ih p' h' | exact h'
theorem any_toks {M : Model} {A : Around} {α : Type} {c : Sem α} {Q : α → Shared → Prop} {E : Value → Shared → Prop} {s : Shared} (h : ∀ t, wpAny M A c Q E ⟨s.heap, s.gens, s.drawn, t, s.os⟩) : wpAny M A c Q E s := h s.toks
theorem itB_eq : itB = [nthS itB 0, nthS itB 1, nthS itB 2] ++ [itFor, nthS itB 4] := by with_unfolding_all rfl
theorem mapI_eq {M : Str → Option Value} {mk : Str} {mt : Tok} {it nr : Addr} (H : FI M mk mt it nr) : M = mapI M mk mt it nr := by
  refine funext fun y => ?_
  unfold mapI
  by_cases c3 : y = Str.ofString "marks"
  · subst c3; rw [if_pos rfl]; exact H.marks
  · rw [if_neg c3]
    by_cases c4 : y = Str.ofString "items"
    · subst c4; rw [if_pos rfl]; exact H.items
    · rw [if_neg c4]
      by_cases c5 : y = Str.ofString "near"
      · subst c5; rw [if_pos rfl]; exact H.near
      · rw [if_neg c5]
set_option maxRecDepth 100000 in
set_option maxHeartbeats 1000000 in
theorem it_ret {w : World} {mean : ExcName → Option Value} {mg mb : Str → Option Value} {dp un : Nat} {gd : Option (List Code)} {outer : List Env} {A₀ : Around} {base h₀ : Heap} {L it nr : Addr} {m : Str → Option Value} {s : Shared} {Q : Flow → Shared → Prop} {E : Value → Shared → Prop} {mk : Str} {mt : Tok} {tw : List (Addr × Obj)}
    (B : Below A₀ base outer h₀) (F : Fr h₀ L s.heap (mapI m mk mt it nr)) (X : (hd10.heap_39 w.params).In h₀) (T : Top topProg loose10 mean mg mb h₀) (N : News h₀ L s.heap tw)
    (fin : ∀ R h' tk', Fr h₀ L h' (mapI m mk mt it nr) → News h₀ L h' ((R, tupObj [.ref it, .str mk mt]) :: tw) → Q (.ret (.ref R)) { s with heap := h', toks := tk' }) :
    wpAny (model prog10 w) (itA dp un gd L outer) (exec (nthS itB 4) (itE L)) Q E s := by
  have hfill : PySem.Challenge.rw_dm0148_10.about = PySem.Challenge.rw_dm0148_10.about ∧ hd10.heap_39 = hd10.heap_39 := by k_fill; exact ⟨rfl, rfl⟩
  clear hfill
  conv in (exec _ _) => arg 1; whnf
  w_strict (k_steps)
  exact fin _ _ _ (by assumption) (by assumption)
set_option maxRecDepth 100000 in
set_option maxHeartbeats 1000000 in
theorem items_call {w : World} {mean : ExcName → Option Value} {mg mb : Str → Option Value} {dp un : Nat} {gd : Option (List Code)} {cn : Str} {cs : Scope} {a : Addr} {ccd : Value} {cl : List (Str × Addr)} {outer : List Env} {A₀ : Around} {base h₀ : Heap} {L sa : Addr} {m : Str → Option Value} {s : Shared} {Q E : Value → Shared → Prop} {vs : List Value} {ns : List Int}
    (B : Below A₀ base outer h₀) (F : Fr h₀ L s.heap m) (X : (hd10.heap_39 w.params).In h₀) (T : Top topProg loose10 mean mg mb h₀) (C : CodeHd base 138 134) (hk : cs.kind = .function) (hdp : dp + 60 < recursionLimit) (hun : un + 500 < cLine)
    (hL : s.heap.IsList sa vs.toArray) (hI : IntsAre vs ns) (hlen : ¬ (63 : Int) < ns.length)
    (fin : ∀ R it items tw mt ni h' tk', Kp s.heap h' → Fr h₀ L h' m → ItOk w.params items tw 63 → News h₀ L h' ((R, tupObj [.ref it, .str (marksOf items) mt]) :: (it, W.listOf (items.map It.val).toArray ni) :: tw) → (∀ p ∈ (R, tupObj [.ref it, .str (marksOf items) mt]) :: (it, W.listOf (items.map It.val).toArray ni) :: tw, s.heap.get? p.1 = none) → NeAll it tw → Q (.ref R) { s with heap := h', toks := tk' }) :
    wpAny (model prog10 w) (ktrTop dp un gd cn cs L a ccd cl outer) (call (.ref 132) [.ref sa]) Q E s := by
  have hfill : PySem.Challenge.rw_dm0148_10.about = PySem.Challenge.rw_dm0148_10.about ∧ hd10.heap_39 = hd10.heap_39 := by k_fill; exact ⟨rfl, rfl⟩
  clear hfill
  have N : News h₀ L s.heap [] := fun p hp => nomatch hp
  refine wpAny_call ?_
  k_dflt (refine' code_keep (A := ktrTop dp un gd cn cs L a ccd cl outer) B F X N T rfl rfl hk ?k6 ?k7 ?k8 ?k9 ?kB ?_ ?c2 ?c3 ?c4 ?c5; (case k6 => k_is); (case k7 => k_is); (case k8 => (show dp < recursionLimit; omega)); (case k9 => exact BindsTo.of_eq rfl); (case kB => exact locs rfl); (case c2 => exact rfl); (case c3 => exact rfl); (case c4 => exact rfl); (case c5 => decide); k_whole)
  intro g' L' h' gk' FG' F' N' B' X' T' l1
  have k0 : Kp s.heap g' := fun b o hb => gk' b o hb List.not_mem_nil
  have hLg : g'.IsList sa vs.toArray := by
    obtain ⟨o, ho, r⟩ := hL
    exact ⟨o, k0 _ _ ho, r⟩
  have F'' : Fr g' L' h' (fun y => ([(Str.ofString "script", Value.ref sa)] : List (Str × Value)).reverse.lookup y) := F'
  clear F'
  rename Fr g' L' h' _ => F'
  show wpAny (model prog10 w) (itA (dp + 1) (un + 3) gd L' (envX cn cs L a ccd cl :: outer)) (execs itB (itE L')) _ _ _
  refine any_toks ?_
  intro tk0
  dsimp only
  rw [itB_eq]
  refine wpAny_execs_append ?_
  generalize hQ : (fun (f : Flow) (s' : Shared) => _) = Q1
  have z1 := @it_init
  revert z1
  generalize [nthS itB 0, nthS itB 1, nthS itB 2] = p1
  intro z1
  refine z1 B' F' X' T' N' ?_
  intro it nr tk t nl h1 tk1 F1 N1 hnl hok hlt
  subst hQ
  dsimp only
  have e1 : (mapI (fun y => ([(Str.ofString "script", Value.ref sa)] : List (Str × Value)).reverse.lookup y) (marksOf (items0 tk)) t it nr) = fun y => if y = Str.ofString "script" then some (.ref sa) else mapI (fun y => ([(Str.ofString "script", Value.ref sa)] : List (Str × Value)).reverse.lookup y) (marksOf (items0 tk)) t it nr y := by
    refine funext fun y => ?_
    by_cases c : y = Str.ofString "script"
    · subst c; rfl
    · rw [if_neg c]
  have F1' : Fr g' L' h1 (fun y => if y = Str.ofString "script" then some (.ref sa) else mapI (fun y => ([(Str.ofString "script", Value.ref sa)] : List (Str × Value)).reverse.lookup y) (marksOf (items0 tk)) t it nr y) := e1 ▸ F1
  refine wpAny_execs_cons (it_for (dp := dp + 1) (un := un + 3) (gd := gd) B' F1' X' T' N1 PassesOwn.leaving hLg hI hlen fun I D ws px hx tk2 hI1 hD1 hws => ?_)
  have d1 : @Ne Nat D it := Nat.ne_of_gt (hD1 _ (.head _))
  have d2 : @Ne Nat D I := Nat.ne_of_lt (hI1 _ (.head _))
  have d3 : @Ne Nat it I := Nat.ne_of_lt (hI1 _ (.tail _ (.head _)))
  have d4 : @Ne Nat nr I := Nat.ne_of_lt (hI1 _ (.tail _ (.tail _ (.head _))))
  have d5 : @Ne Nat nr it := Nat.ne_of_lt hlt
  have hlt63 : (ns.take 63).length ≤ 63 := by rw [List.length_take]; omega
  refine items_rest B' X' T' C (by omega) (by omega) hnl hok d5 d1 d2 d3 d4 ?_ hws (items0 tk) [] t _ 0 0 (by omega) (items0_ok _ tk) ⟨by rfl, by rfl, by rfl⟩ (fun p hp => nomatch hp) (fun p hp => nomatch hp)
  intro items tw mt m3 ni h3 tk3 O H F3 N3 hit
  dsimp only
  rw [mapI_eq H] at F3
  refine wpAny_execs_cons (it_ret (s := ⟨h3, _, _, _, _⟩) B' F3 X' T' N3 fun R h4 tk4 F4 N4 => ?_)
  dsimp only
  have N5 : News g' L' h4 ((R, tupObj [.ref it, .str (marksOf items) mt]) :: (it, W.listOf (items.map It.val).toArray ni) :: tw) := fun p hp => N4 p (by
    simp only [List.mem_cons] at hp ⊢
    rcases hp with h | h | h
    · exact .inl h
    · exact .inr (.inr (.inl h))
    · exact .inr (.inr (.inr (.inr h))))
  exact leaveK_ F4 N5 fun kF kN => fin R it items tw mt ni h4 _ (fun b o hb => F4.keep b o (k0 b o hb)) kF O kN (fun p hp => none_of k0 (N5 p hp).2.2) hit
end Mine
end

-- LayEq10
section
theorem Mine.offLayEq10 : True := by
  w_top off
  trivial
open PySem PySem.W PyProof.Rows PySem.Spec PySem.Calls PySem.SeqAt
set_option linter.unusedVariables false
namespace Mine
open Mine10
theorem all_true (n : Nat) : ((List.range n).all fun _ => true) = true := by simp
theorem lay_eqAt {s : Shared} {P P' : Addr → Prop} : ∀ {d v t}, Lay s.heap P d v t → ∀ {d' u}, Lay s.heap P' d' u t → ∀ A : Around, A.units + d < cLine → EqAt A s v u true := by
  intro d v t L
  induction L with
  | @leaf d b tb =>
    intro d' u L' A hu
    have e : ∃ b' t', u = .bytes b' t' ∧ b'.toList = b.toList := by
      generalize ht : Tr.leaf b.toList = t at L'
      cases L' with
      | leaf => exact ⟨_, _, rfl, (Tr.leaf.inj ht).symm⟩
      | node => cases ht
    obtain ⟨b', t', rfl, hb⟩ := e
    have z := eqAt_bytes (A := A) (s := s) b b' tb t'
    rw [hb, beq_self_eq_true] at z
    exact z
  | @node d a vs n l hp ha hl hall ih =>
    intro d' u L' A hu
    cases L' with
    | @node d' a' vs' n' _ hp' ha' hl' hall' =>
      by_cases c : a = a'
      · subst c; exact EqAt.same _
      · refine EqAt.of_refs c ?_
        have z := RcAt.lists (A := A) (s := s) (l := a) (b := a') (items := vs.toArray) (items2 := vs'.toArray) (e := fun _ => true) ⟨_, ha, rfl, n, rfl⟩ ⟨_, ha', rfl, n', rfl⟩ (by simp; omega) (by omega) (fun j h1 h2 => ?_)
        · rw [all_true] at z
          exact z
        · have j1 : j < vs.length := by simpa using h1
          have j2 : j < vs'.length := by simpa using h2
          have j3 : j < l.length := by omega
          have e1 : vs[j]? = some vs.toArray[j] := by simp [j1]
          have e2 : vs'[j]? = some vs'.toArray[j] := by simp [j2]
          have e3 : l[j]? = some l[j] := List.getElem?_eq_getElem j3
          exact ih j _ _ e1 e3 (hall' j _ _ e2 e3) A.in1 (by simp only [units_in1]; omega)
theorem lay_ne {prog : Program} {w : World} {A : Around} {E : Value → Shared → Prop} {Q : Value → Shared → Prop} {s : Shared} {P P' : Addr → Prop} {d d' : Nat} {a b : Addr} {l : List Tr} (L1 : Lay s.heap P (d + 1) (.ref a) (.node l)) (L2 : Lay s.heap P' d' (.ref b) (.node l)) (hu : A.units + d + 1 < cLine) (h : Q (.bool false) s) :
    wpAny (model prog w) A (compareOp .NotEq (.ref a) (.ref b)) Q E s := by
  cases L1 with
  | @node _ _ vs n _ hp ha hl hall =>
    cases L2 with
    | @node d2 _ vs' n' _ hp' ha' hl' hall' =>
      refine PySem.EqBoolInt.of_rcne (k := false) ?_ h
      have z := RcNeAt.lists (A := A) (s := s) (l := a) (b := b) (items := vs.toArray) (items2 := vs'.toArray) (e := fun _ => true) ⟨_, ha, rfl, n, rfl⟩ ⟨_, ha', rfl, n', rfl⟩ (by simp; omega) (by omega) (fun j h1 h2 => ?_)
      · rw [all_true] at z
        exact z
      · have j1 : j < vs.length := by simpa using h1
        have j2 : j < vs'.length := by simpa using h2
        have j3 : j < l.length := by omega
        have e1 : vs[j]? = some vs.toArray[j] := by simp [j1]
        have e2 : vs'[j]? = some vs'.toArray[j] := by simp [j2]
        have e3 : l[j]? = some l[j] := List.getElem?_eq_getElem j3
        exact lay_eqAt (hall j _ _ e1 e3) (hall' j _ _ e2 e3) A.in1 (by simp only [units_in1]; omega)
end Mine
end

-- Line10
section
theorem Mine.offLine10 : True := by
  w_top off
  trivial
open PySem PySem.W PyProof.Rows PySem.Calls
set_option linter.unusedVariables false
namespace Mine
open Mine10
local macro_rules | `(tactic| k_all) => `(tactic| exact NeAll.out (by assumption))
local macro_rules | `(tactic| walk_at "call builtin:len") => `(tactic| (k_here; k_dflt (refine it_len (by k_asm) (by k_mem) (by assumption) ?_; k_whole)))
local macro_rules | `(tactic| walk_at "subscriptTail") => `(tactic| (k_here; (with_reducible show wpAny _ _ (subscriptTail _ _ (Value.ref _) (Value.int _ _)) _ _ _); k_dflt (refine it_item (by k_asm) (by k_mem) (by assumption) (by assumption) ?_ (by with_unfolding_all rfl) (by (intro _; with_unfolding_all rfl)); k_whole)))
local macro_rules | `(tactic| walk_at "subscriptTail Name Name str int") => `(tactic| (k_here; (with_reducible show wpAny _ _ (subscriptTail _ _ (Value.str _ _) (Value.int _ _)) _ _ _); k_dflt (refine mk_item (by assumption) (by assumption) ?_ (by with_unfolding_all rfl) (by (intro _; with_unfolding_all rfl)); k_whole)))
local macro_rules | `(tactic| walk_at "subscriptTail Name Constant ref int") => `(tactic| (k_here; k_dflt (refine pl_item (by k_asm) (by k_mem) ?_ (by with_unfolding_all rfl) (by (intro _; with_unfolding_all rfl)); k_whole)))
local macro_rules | `(tactic| walk_at "exec Raise some none") => `(tactic| (k_here; k_dflt (refine raise_any rfl ?_)))
local macro_rules | `(tactic| walk_at "compareOp Eq str str") => `(tactic| (k_here; (with_reducible show wpAny _ _ (compareOp _ _ (Value.str (PySem.Str.ofString "(") _)) _ _ _); k_dflt (first | (refine open_no (by omega) ?_; k_whole) | (refine open_yes (by omega) ?_; k_whole))))
local macro_rules | `(tactic| walk_at "compareOp Eq str str") => `(tactic| (k_here; (with_reducible show wpAny _ _ (compareOp _ _ (Value.str (PySem.Str.ofString "!") _)) _ _ _); k_dflt (first | (refine bang_no (by omega) ?_; k_whole) | (refine bang_yes (by omega) ?_; k_whole))))
set_option maxRecDepth 100000 in
set_option maxHeartbeats 3000000 in
theorem line_item {w : World} {mean : ExcName → Option Value} {mg mb : Str → Option Value} {dp un : Nat} {gd : Option (List Code)} {cn : Str} {cs : Scope} {a : Addr} {ccd : Value} {cl : List (Str × Addr)} {outer : List Env} {A₀ : Around} {base h₀ : Heap} {L : Addr} {m : Str → Option Value} {s : Shared} {Q E : Value → Shared → Prop}
    {it pl src tt ds lf lc c1 c2 c3 c4 : Addr} {o1 o2 o3 o4 oc fo : Obj} {tkk mt : Tok} {q : Str} {items : List It} {ni np : Nat} {i : Nat} {t t9 : Tok} {x : It}
    (B : Below A₀ base outer h₀) (F : Fr h₀ L s.heap m) (X : (hd10.heap_39 w.params).In h₀) (T : Top topProg loose10 mean mg mb h₀) (hk : cs.kind = .function) (C : CodeHd base 138 134)
    (N : News h₀ L s.heap (LD w.params it pl src tt ds lf lc c1 c2 c3 c4 o1 o2 o3 o4 oc fo tkk items ni i t np))
    (d1 : o1.data = .cell (some (.ref it))) (d2 : o2.data = .cell (some (.str (marksOf items) mt))) (d3 : o3.data = .cell (some (.ref pl))) (d4 : o4.data = .cell (some (.ref src))) (LF : LineFn fo oc lc c1 c2 c3 c4 q)
    (hq : AllNq pl (statL w.params src tt ds lf lc c1 c2 c3 c4 o1 o2 o3 o4 oc fo tkk)) (hip : @LT.lt Nat _ it pl) (hdp : dp + 3 < recursionLimit) (hun : un + 100 < cLine) (hlen : items.length ≤ 1000) (hx : items[i]? = some x) (hil : i < items.length) (hm : x.mark = 46 ∨ x.mark = 66)
    (fin : ∀ h' t' np' tk', Fr h₀ L h' m → News h₀ L h' (LD w.params it pl src tt ds lf lc c1 c2 c3 c4 o1 o2 o3 o4 oc fo tkk items ni (i + 1) t' np') → KeepBut pl s.heap h' → Q x.val { s with heap := h', toks := tk' }) :
    wpAny (model prog10 w) (ktrTop dp un gd cn cs L a ccd cl outer) (call (.ref lf) [.int 65537 t9]) Q E s := by
  have hfill : PySem.Challenge.rw_dm0148_10.about = PySem.Challenge.rw_dm0148_10.about ∧ hd10.heap_39 = hd10.heap_39 := by k_fill; exact ⟨rfl, rfl⟩
  clear hfill
  obtain ⟨doc, pm, ct, hfn⟩ := LF.fn
  obtain ⟨vsc, tq, hoc, hq1⟩ := LF.code
  refine wpAny_call ?_
  refine callK_plain (A := ktrTop dp un gd cn cs L a ccd cl outer) B F N T.nolimit rfl rfl hk (N (lf, fo) (by k_mem)).1 hfn ⟨lc, oc, vsc, tq, rfl, (N (lc, oc) (by k_mem)).1, hoc, hq1⟩ (by show dp < recursionLimit; omega) (BindsTo.of_eq line_bind) line_loc ?_ line_cell line_co line_gen line_kind
  intro g' L' h' gk' FG' F' N' B' st' l1
  have X' := X.keeps st'
  have T' := T.keeps st'
  have hlt' : ∀ p ∈ LD w.params it pl src tt ds lf lc c1 c2 c3 c4 o1 o2 o3 o4 oc fo tkk items ni i t np, p.1 < L' := l1
  k_lt l1
  replace hq := neCons (o := W.listOf (items.map It.val).toArray ni) (Nat.ne_of_lt hip) (allNq_out hq)
  have hS : lineScope = lineScope := rfl
  conv at hS => rhs; whnf
  have hB : lineB = lineB := rfl
  conv at hB => rhs; whnf
  rw [hS, hB]
  clear hS hB
  w_strict (k_steps)
  (rename News g' L' _ _ => kN)
  (rename Fr g' L' _ _ => kG)
  (rename Fr h₀ L _ _ => kF)
  (rename News h₀ L _ _ => kNh)
  refine fin _ _ _ _ kF kNh (keep_but gk' kG N kN fun p hp => ?_)
  rcases List.mem_cons.mp hp with rfl | hp
  · exact .inl rfl
  · exact .inr hp
set_option maxRecDepth 100000 in
set_option maxHeartbeats 3000000 in
theorem line_eof {w : World} {mean : ExcName → Option Value} {mg mb : Str → Option Value} {dp un : Nat} {gd : Option (List Code)} {cn : Str} {cs : Scope} {a : Addr} {ccd : Value} {cl : List (Str × Addr)} {outer : List Env} {A₀ : Around} {base h₀ : Heap} {L : Addr} {m : Str → Option Value} {s : Shared} {Q E : Value → Shared → Prop}
    {it pl src tt ds lf lc c1 c2 c3 c4 : Addr} {o1 o2 o3 o4 oc fo : Obj} {tkk mt : Tok} {q : Str} {items : List It} {ni np : Nat} {i : Nat} {t t9 : Tok} 
    (B : Below A₀ base outer h₀) (F : Fr h₀ L s.heap m) (X : (hd10.heap_39 w.params).In h₀) (T : Top topProg loose10 mean mg mb h₀) (hk : cs.kind = .function) (C : CodeHd base 138 134)
    (N : News h₀ L s.heap (LD w.params it pl src tt ds lf lc c1 c2 c3 c4 o1 o2 o3 o4 oc fo tkk items ni i t np))
    (d1 : o1.data = .cell (some (.ref it))) (d2 : o2.data = .cell (some (.str (marksOf items) mt))) (d3 : o3.data = .cell (some (.ref pl))) (d4 : o4.data = .cell (some (.ref src))) (LF : LineFn fo oc lc c1 c2 c3 c4 q)
    (hq : AllNq pl (statL w.params src tt ds lf lc c1 c2 c3 c4 o1 o2 o3 o4 oc fo tkk)) (hip : @LT.lt Nat _ it pl) (hdp : dp + 3 < recursionLimit) (hun : un + 100 < cLine) (hlen : items.length ≤ 1000) (hil : items.length ≤ i)
    (fin : ∀ h' t' np' tk' t5, Fr h₀ L h' m → News h₀ L h' (LD w.params it pl src tt ds lf lc c1 c2 c3 c4 o1 o2 o3 o4 oc fo tkk items ni (i + 1) t' np') → KeepBut pl s.heap h' → Q (.bytes #[] t5) { s with heap := h', toks := tk' }) :
    wpAny (model prog10 w) (ktrTop dp un gd cn cs L a ccd cl outer) (call (.ref lf) [.int 65537 t9]) Q E s := by
  have hfill : PySem.Challenge.rw_dm0148_10.about = PySem.Challenge.rw_dm0148_10.about ∧ hd10.heap_39 = hd10.heap_39 := by k_fill; exact ⟨rfl, rfl⟩
  clear hfill
  obtain ⟨doc, pm, ct, hfn⟩ := LF.fn
  obtain ⟨vsc, tq, hoc, hq1⟩ := LF.code
  refine wpAny_call ?_
  refine callK_plain (A := ktrTop dp un gd cn cs L a ccd cl outer) B F N T.nolimit rfl rfl hk (N (lf, fo) (by k_mem)).1 hfn ⟨lc, oc, vsc, tq, rfl, (N (lc, oc) (by k_mem)).1, hoc, hq1⟩ (by show dp < recursionLimit; omega) (BindsTo.of_eq line_bind) line_loc ?_ line_cell line_co line_gen line_kind
  intro g' L' h' gk' FG' F' N' B' st' l1
  have X' := X.keeps st'
  have T' := T.keeps st'
  have hlt' : ∀ p ∈ LD w.params it pl src tt ds lf lc c1 c2 c3 c4 o1 o2 o3 o4 oc fo tkk items ni i t np, p.1 < L' := l1
  k_lt l1
  replace hq := neCons (o := W.listOf (items.map It.val).toArray ni) (Nat.ne_of_lt hip) (allNq_out hq)
  have hS : lineScope = lineScope := rfl
  conv at hS => rhs; whnf
  have hB : lineB = lineB := rfl
  conv at hB => rhs; whnf
  rw [hS, hB]
  clear hS hB
  w_strict (k_steps)
  (rename News g' L' _ _ => kN)
  (rename Fr g' L' _ _ => kG)
  (rename Fr h₀ L _ _ => kF)
  (rename News h₀ L _ _ => kNh)
  refine fin _ _ _ _ _ kF kNh (keep_but gk' kG N kN fun p hp => ?_)
  rcases List.mem_cons.mp hp with rfl | hp
  · exact .inl rfl
  · exact .inr hp
set_option maxRecDepth 100000 in
set_option maxHeartbeats 3000000 in
theorem line_err {w : World} {mean : ExcName → Option Value} {mg mb : Str → Option Value} {dp un : Nat} {gd : Option (List Code)} {cn : Str} {cs : Scope} {a : Addr} {ccd : Value} {cl : List (Str × Addr)} {outer : List Env} {A₀ : Around} {base h₀ : Heap} {L : Addr} {m : Str → Option Value} {s : Shared} {Q E : Value → Shared → Prop}
    {it pl src tt ds lf lc c1 c2 c3 c4 : Addr} {o1 o2 o3 o4 oc fo : Obj} {tkk mt : Tok} {q : Str} {items : List It} {ni np : Nat} {i : Nat} {t t9 : Tok} {e : Addr} {oe : Obj} {cls a0 : Value}
    (B : Below A₀ base outer h₀) (F : Fr h₀ L s.heap m) (X : (hd10.heap_39 w.params).In h₀) (T : Top topProg loose10 mean mg mb h₀) (hk : cs.kind = .function) (C : CodeHd base 138 134)
    (N : News h₀ L s.heap (LD w.params it pl src tt ds lf lc c1 c2 c3 c4 o1 o2 o3 o4 oc fo tkk items ni i t np))
    (d1 : o1.data = .cell (some (.ref it))) (d2 : o2.data = .cell (some (.str (marksOf items) mt))) (d3 : o3.data = .cell (some (.ref pl))) (d4 : o4.data = .cell (some (.ref src))) (LF : LineFn fo oc lc c1 c2 c3 c4 q)
    (hq : AllNq pl (statL w.params src tt ds lf lc c1 c2 c3 c4 o1 o2 o3 o4 oc fo tkk)) (hip : @LT.lt Nat _ it pl) (hdp : dp + 3 < recursionLimit) (hun : un + 100 < cLine) (hlen : items.length ≤ 1000) (hx : items[i]? = some (.err e)) (hil : i < items.length) (hm : (It.err e).mark = 33) (he : s.heap.get? e = some oe) (R : Pris w.params oe e cls a0) (hnl : ∀ p ∈ LD w.params it pl src tt ds lf lc c1 c2 c3 c4 o1 o2 o3 o4 oc fo tkk items ni i t np, p.1 ≠ e)
    (fin : ∀ h' tk', ExcP pl (envX cn cs L a ccd cl :: outer) s.heap h₀ L m (i + 1) e cls a0 h' → E (.ref e) { s with heap := h', toks := tk' }) :
    wpAny (model prog10 w) (ktrTop dp un gd cn cs L a ccd cl outer) (call (.ref lf) [.int 65537 t9]) Q E s := by
  have hfill : PySem.Challenge.rw_dm0148_10.about = PySem.Challenge.rw_dm0148_10.about ∧ hd10.heap_39 = hd10.heap_39 := by k_fill; exact ⟨rfl, rfl⟩
  clear hfill
  obtain ⟨doc, pm, ct, hfn⟩ := LF.fn
  obtain ⟨vsc, tq, hoc, hq1⟩ := LF.code
  refine wpAny_call ?_
  refine callK_plain (A := ktrTop dp un gd cn cs L a ccd cl outer) B F N T.nolimit rfl rfl hk (N (lf, fo) (by k_mem)).1 hfn ⟨lc, oc, vsc, tq, rfl, (N (lc, oc) (by k_mem)).1, hoc, hq1⟩ (by show dp < recursionLimit; omega) (BindsTo.of_eq line_bind) line_loc ?_ line_cell line_co line_gen line_kind
  intro g' L' h' gk' FG' F' N' B' st' l1
  have X' := X.keeps st'
  have T' := T.keeps st'
  have hlt' : ∀ p ∈ LD w.params it pl src tt ds lf lc c1 c2 c3 c4 o1 o2 o3 o4 oc fo tkk items ni i t np, p.1 < L' := l1
  k_lt l1
  replace hq := neCons (o := W.listOf (items.map It.val).toArray ni) (Nat.ne_of_lt hip) (allNq_out hq)
  have hS : lineScope = lineScope := rfl
  conv at hS => rhs; whnf
  have hB : lineB = lineB := rfl
  conv at hB => rhs; whnf
  rw [hS, hB]
  clear hS hB
  w_strict (k_steps)
  (rename News g' L' _ _ => kN)
  (rename Fr g' L' _ _ => kG)
  obtain ⟨vs, hc, hd, h0, h1⟩ := R.ob
  have hng : e ∉ (LD w.params it pl src tt ds lf lc c1 c2 c3 c4 o1 o2 o3 o4 oc fo tkk items ni i t np).map (·.1) := fun hm' => by
    obtain ⟨p, hp, z⟩ := List.mem_map.mp hm'
    exact hnl p hp z
  have he1 := kG.keep e oe (gk' e oe he hng)
  refine ⟨e, oe, cls, a0, rfl, he1, R, X'.keeps kG.keep, ?_⟩
  refine fly_first rfl rfl (pushX B' kG rfl rfl).frames he1 hd h0 h1 fun Bh h2 fl hk up => ?_
  rw [hc] at fl
  refine fin _ _ (exc_out B rfl rfl gk' FG' kG N kN (fun p hp => ?_) ⟨_, .head _⟩ hlt' (Ne.symm (hnl _ (.head _))) fl hk up)
  rcases List.mem_cons.mp hp with rfl | hp
  · exact .inl rfl
  · exact .inr hp
-- LineOp10
set_option maxRecDepth 100000 in
set_option maxHeartbeats 3000000 in
theorem line_op {w : World} {mean : ExcName → Option Value} {mg mb : Str → Option Value} {dp un : Nat} {gd : Option (List Code)} {cn : Str} {cs : Scope} {a : Addr} {ccd : Value} {cl : List (Str × Addr)} {outer : List Env} {A₀ : Around} {base h₀ : Heap} {L : Addr} {m : Str → Option Value} {s : Shared} {Q E : Value → Shared → Prop}
    {it pl src tt ds lf lc c1 c2 c3 c4 : Addr} {o1 o2 o3 o4 oc fo : Obj} {tkk mt : Tok} {q : Str} {items : List It} {ni np : Nat} {i : Nat} {t t9 : Tok} {o : Out}
    (B : Below A₀ base outer h₀) (F : Fr h₀ L s.heap m) (X : (hd10.heap_39 w.params).In h₀) (T : Top topProg loose10 mean mg mb h₀) (hk : cs.kind = .function) (C : CodeHd base 138 134)
    (N : News h₀ L s.heap (LD w.params it pl src tt ds lf lc c1 c2 c3 c4 o1 o2 o3 o4 oc fo tkk items ni i t np))
    (d1 : o1.data = .cell (some (.ref it))) (d2 : o2.data = .cell (some (.str (marksOf items) mt))) (d3 : o3.data = .cell (some (.ref pl))) (d4 : o4.data = .cell (some (.ref src))) (LF : LineFn fo oc lc c1 c2 c3 c4 q)
    (hq : AllNq pl (statL w.params src tt ds lf lc c1 c2 c3 c4 o1 o2 o3 o4 oc fo tkk)) (hip : @LT.lt Nat _ it pl) (hdp : dp + 2 * opens items i + 7 < recursionLimit) (hun : un + 8 * opens items i + 196 < cLine) (hlen : items.length ≤ 1000) (hx : items[i]? = some It.op) (hil : i < items.length) (hm : It.op.mark = 40) (fr : Fresh ⟨it, pl, src, tt, ds, lf, lc, c1, c2, c3, c4, o1, o2, o3, o4, oc, fo, tkk, mt, q, items, ni⟩ w.params s.heap i)
    (rd : ReadC w ⟨it, pl, src, tt, ds, lf, lc, c1, c2, c3, c4, o1, o2, o3, o4, oc, fo, tkk, mt, q, items, ni⟩ (i + 1) o) (herr : ∀ e' a, o = .err e' a → ∃ j, i ≤ j ∧ items[j]? = some (It.err e'))
    (fin : ∀ l a', o = .ok l a' → ∀ r h' t' np' tk', Fr h₀ L h' m → News h₀ L h' (LD w.params it pl src tt ds lf lc c1 c2 c3 c4 o1 o2 o3 o4 oc fo tkk items ni a' t' np') → KeepBut pl s.heap h' → Lay h' (fun a => s.heap.get? a = none) (opens items i) (.ref r) (.node l) → Q (.ref r) { s with heap := h', toks := tk' })
    (finx : ∀ e cls a0 h' tk', ExcOf o s.heap h' w.params e cls a0 → ExcP pl (envX cn cs L a ccd cl :: outer) s.heap h₀ L m o.pos e cls a0 h' → E (.ref e) { s with heap := h', toks := tk' }) :
    wpAny (model prog10 w) (ktrTop dp un gd cn cs L a ccd cl outer) (call (.ref lf) [.int 65537 t9]) Q E s := by
  have hfill : PySem.Challenge.rw_dm0148_10.about = PySem.Challenge.rw_dm0148_10.about ∧ hd10.heap_39 = hd10.heap_39 := by k_fill; exact ⟨rfl, rfl⟩
  clear hfill
  obtain ⟨doc, pm, ct, hfn⟩ := LF.fn
  obtain ⟨vsc, tq, hoc, hq1⟩ := LF.code
  refine wpAny_call ?_
  refine callK_plain (A := ktrTop dp un gd cn cs L a ccd cl outer) B F N T.nolimit rfl rfl hk (N (lf, fo) (by k_mem)).1 hfn ⟨lc, oc, vsc, tq, rfl, (N (lc, oc) (by k_mem)).1, hoc, hq1⟩ (by show dp < recursionLimit; omega) (BindsTo.of_eq line_bind) line_loc ?_ line_cell line_co line_gen line_kind
  intro g' L' h' gk' FG' F' N' B' st' l1
  have X' := X.keeps st'
  have T' := T.keeps st'
  have hlt' : ∀ p ∈ LD w.params it pl src tt ds lf lc c1 c2 c3 c4 o1 o2 o3 o4 oc fo tkk items ni i t np, p.1 < L' := l1
  k_lt l1
  replace hq := neCons (o := W.listOf (items.map It.val).toArray ni) (Nat.ne_of_lt hip) (allNq_out hq)
  have hS : lineScope = lineScope := rfl
  conv at hS => rhs; whnf
  have hB : lineB = lineB := rfl
  conv at hB => rhs; whnf
  rw [hS, hB]
  clear hS hB
  w_strict (k_steps)
  (rename News g' L' _ _ => kN)
  (rename Fr g' L' _ _ => kG)
  have hop := opens_op hx
  have kb : KeepBut pl s.heap _ := keep_but gk' kG N kN fun p hp => by
    rcases List.mem_cons.mp hp with rfl | hp
    · exact .inl rfl
    · exact .inr hp
  have hpl : ∃ j t np, s.heap.get? pl = some (W.listOf #[.int j t] np) := ⟨_, _, _, (N _ (.head _)).1⟩
  refine rd mean mg mb _ _ _ _ _ _ _ _ _ _ _ _ _ _ _ _ _ _ _ B' kG X' T' rfl C kN ?_ ?_ (fresh_keeps fr kb hpl (Nat.le_succ i)) (fun l a' eo r h2 t2 np2 tk2 F2 N2 kb2 lay => ?_) (fun e cls a0 h2 tk2 EO EP => ?_)
  · show dp + 1 + 2 * opens items (i + 1) + 8 < recursionLimit
    omega
  · show un + 3 + 8 * opens items (i + 1) + 200 < cLine
    omega
  · refine leaveK_ F2 N2 fun kF kNh => fin l a' eo r h2 t2 np2 tk2 kF kNh (fun b o hb hne => kb2 b o (kb b o hb hne) hne) ?_
    rw [hop]
    refine lay.imp fun x hx => ?_
    cases q : s.heap.get? x with
    | none => rfl
    | some ob =>
      by_cases c : x = pl
      · subst c
        have z := (kN _ (.head _)).1
        rw [hx] at z
        cases z
      · have z := kb x ob q c
        rw [hx] at z
        cases z
  · refine pass_frame (h := s.heap) (h₀ := h₀) (L := L) (m := m) rfl rfl EP FG' kb (fun b o hb => ?_) fun h3 EP3 up3 => ?_
    · by_cases hm' : b ∈ (LD w.params it pl src tt ds lf lc c1 c2 c3 c4 o1 o2 o3 o4 oc fo tkk items ni i t np).map (·.1)
      · obtain ⟨p, hp, rfl⟩ := List.mem_map.mp hm'
        exact Nat.ne_of_lt (hlt' p hp)
      · exact Nat.ne_of_lt (Nat.lt_of_lt_of_le (Heap.lt_size (gk' b o hb hm')) kG.above)
    · refine finx e cls a0 h3 _ (EO.slots kb (fun e' a' eo => ?_) (fun z => ?_) up3) EP3
      · obtain ⟨j, hj, hje⟩ := herr e' a' eo
        obtain ⟨oe, _, _, ho, _⟩ := fr j e' hj hje
        exact ⟨oe, ho, fresh_ne fr hpl hj hje⟩
      · rw [(kN _ (.head _)).1] at z
        cases z
end Mine
end

-- Read10
section
theorem Mine.offRead10 : True := by
  w_top off
  trivial
open PySem PySem.W PyProof.Rows PySem.Calls
set_option linter.unusedVariables false
namespace Mine
open Mine10
local macro_rules | `(tactic| walk_at "getMethod ref") => `(tactic| (k_here; k_dflt (refine rl_method (by k_asm) (by k_asm) (by k_asm) (by k_mem) (by k_mem) ?_; k_whole)))
local macro_rules | `(tactic| walk_at "callWith ref") => `(tactic| (k_here; k_dflt (refine callWith_F (by exact fn_at (by assumption) (by k_asm) (by k_mem)) ?_; k_whole)))
local macro_rules | `(tactic| walk_at "FnAt") => `(tactic| (k_dflt (exact fn_at (by assumption) (by k_asm) (by k_mem))))
set_option maxRecDepth 100000 in
set_option maxHeartbeats 1000000 in
theorem rl_stmt {w : World} {mean : ExcName → Option Value} {mg mb : Str → Option Value} {dp un : Nat} {gd : Option (List Code)} {outer : List Env} {A₀ : Around} {base h₀ : Heap} {L : Addr} {m : Str → Option Value} {s : Shared} {Q : Flow → Shared → Prop} {E : Value → Shared → Prop}
    {it pl src tt ds lf lc c1 c2 c3 c4 hd : Addr} {o1 o2 o3 o4 oc fo oh : Obj} {tkk mt : Tok} {q : Str} {items : List It} {ni np nh : Nat} {i : Nat} {t t9 : Tok} {own : List (Addr × Obj)}
    (B : Below A₀ base outer h₀) (F : Fr h₀ L s.heap (fun y => if y = Str.ofString "fp" then some (.ref src) else m y)) (X : (hd10.heap_39 w.params).In h₀) (T : Top topProg loose10 mean mg mb h₀) (C : CodeHd base 138 134)
    (N : News h₀ L s.heap ((hd, oh) :: LDo w.params it pl src tt ds lf lc c1 c2 c3 c4 o1 o2 o3 o4 oc fo tkk items ni i t np own)) (hun : un + 100 < cLine) (hdp : dp + 5 < recursionLimit) (LF : LineFn fo oc lc c1 c2 c3 c4 q)
    (call : ∀ t9 tk', wpAny (model prog10 w) (ktrTop dp un gd (Str.ofString "_read_headers") readScope L 21 (.ref 20) [] outer) (call (.ref lf) [.int 65537 t9]) (fun v s₁ => wpAny (model prog10 w) (ktrTop dp un gd (Str.ofString "_read_headers") readScope L 21 (.ref 20) [] outer) (storeName (readE L) (Str.ofString "line") v) (fun _ s₂ => Q .next s₂) E s₁) E { s with toks := tk' }) :
    wpAny (model prog10 w) (ktrTop dp un gd (Str.ofString "_read_headers") readScope L 21 (.ref 20) [] outer) (exec (nthS turnB 0) (readE L)) Q E s := by
  have hfill : PySem.Challenge.rw_dm0148_10.about = PySem.Challenge.rw_dm0148_10.about ∧ hd10.heap_39 = hd10.heap_39 := by k_fill; exact ⟨rfl, rfl⟩
  clear hfill
  have hS : readScope = readScope := rfl
  conv at hS => rhs; whnf
  rw [hS]
  rw [hS] at call
  clear hS
  conv in (exec _ _) => arg 1; whnf
  w_strict (k_steps)
  exact call _ _
theorem While_own {prog : Program} {w : World} {A : Around} {E : Value → Shared → Prop} {Q : Flow → Shared → Prop} {s : Shared} {env : Env} {test : Expr} {body : List Stmt} {pos : Pos} (I : Nat → Shared → Prop) {n₀ : Nat} (h : I n₀ s)
    (turn : ∀ n s', I n s' → wpAny (model prog w) A (isTrue test env (eval test env)) (fun b s₂ => if b = true then wpAny (model prog w) A (execs body env) (fun f s₃ => match f with | .next | .cont => ∃ n', n' < n ∧ I n' s₃ | .brk => Q .next s₃ | .ret v => Q (.ret v) s₃) E s₂ else Q .next s₂) E s')
    (hE : PassesOwn (model prog w) A env E) : wpAny (model prog w) A (exec (.While test body [] pos) env) Q E s := by
  refine wpAny_While (codeAny_whileLoop I ?_ n₀ h)
  intro n s' hi
  refine wpAny_mono (turn n s' hi) (fun b s₂ h₂ => ?_) hE
  cases b with
  | false =>
    simp only [Bool.false_eq_true, if_false] at h₂ ⊢
    exact wpAny_execs_nil h₂
  | true =>
    simp only [if_true] at h₂ ⊢
    refine wpAny_mono h₂ (fun f s₃ h₃ => ?_) hE
    cases f with
    | next => exact h₃
    | cont => exact h₃
    | brk => exact h₃
    | ret v => exact h₃
theorem line_local {L : Addr} : (readE L).kindOf (Str.ofString "line") = some .local := by kernel_rfl
theorem read_plain {L : Addr} : ((readE L).scope.kind == .class || ((readE L).scope.kind == .module && (readE L).locals != (readE L).globals)) = false := by kernel_rfl
theorem read_kind : readScope.kind = .function := by kernel_rfl
theorem map1_eq {m : Str → Option Value} {x : Str} {v : Value} (h : m x = some v) : m = fun y => if y = x then some v else m y := by
  refine funext fun y => ?_
  by_cases c : y = x
  · subst c; rw [if_pos rfl]; exact h
  · rw [if_neg c]
theorem map2_eq {m : Str → Option Value} {hd : Addr} {v : Value} (h : m (Str.ofString "headers") = some (.ref hd)) : (fun y => if y = Str.ofString "line" then some v else m y) = fun y => if y = Str.ofString "line" then some v else if y = Str.ofString "headers" then some (.ref hd) else m y := by
  refine funext fun y => ?_
  by_cases c : y = Str.ofString "line"
  · rw [if_pos c, if_pos c]
  · rw [if_neg c, if_neg c]
    by_cases c2 : y = Str.ofString "headers"
    · rw [if_pos c2, c2]; exact h
    · rw [if_neg c2]
abbrev SP.ledo (S : SP) (P : Params) (i : Nat) (t : Tok) (np : Nat) (own : List (Addr × Obj)) : List (Addr × Obj) := LDo P S.it S.pl S.src S.tt S.ds S.lf S.lc S.c1 S.c2 S.c3 S.c4 S.o1 S.o2 S.o3 S.o4 S.oc S.fo S.tkk S.items S.ni i t np own
theorem ledo_app {S : SP} {P : Params} {i : Nat} {t : Tok} {np : Nat} {own : List (Addr × Obj)} : S.ledo P i t np own = S.led P i t np ++ own := rfl
/-- the ledger behind a line that was told -/
theorem after_line {S : SP} {P : Params} {g h h' h2 : Heap} {L hd : Addr} {oh : Obj} {i i' : Nat} {t t' : Tok} {np np' : Nat} {own own' : List (Addr × Obj)} {m : Str → Option Value} (N : News g L h ((hd, oh) :: S.ledo P i t np own)) (N' : News g L h' (S.led P i' t' np')) (kb : KeepBut S.pl h h') (hhd : hd ≠ S.pl) (hpo : NeAll S.pl own) (sb : Heap.SameBut L h' h2)
    (ho' : ∀ p ∈ own', h'.get? p.1 = some p.2 ∧ p.1 ≠ L ∧ g.get? p.1 = none) : News g L h2 ((hd, oh) :: S.ledo P i' t' np' (own' ++ own)) := by
  refine News.set ?_ sb
  intro p hp
  rcases List.mem_cons.mp hp with rfl | hp
  · have z := N _ (.head _)
    exact ⟨kb _ _ z.1 hhd, z.2⟩
  · rw [ledo_app] at hp
    rcases List.mem_append.mp hp with hp | hp
    · exact N' p hp
    · rcases List.mem_append.mp hp with hp | hp
      · exact ho' p hp
      · have z := N p (.tail _ (by rw [ledo_app]; exact List.mem_append_right _ hp))
        exact ⟨kb _ _ z.1 (hpo p hp), z.2⟩
end Mine
end

-- Loop10
section
theorem Mine.offLoop10 : True := by
  w_top off
  trivial
open PySem PySem.W PyProof.Rows PySem.Calls
set_option linter.unusedVariables false
namespace Mine
open Mine10
def testS : Stmt → Expr
  | .While t _ _ _ => t
  | _ => .Constant .none 0 default
def posS : Stmt → Pos
  | .While _ _ _ p => p
  | _ => default
theorem readWhile_eq : readWhile = .While (testS readWhile) turnB [] (posS readWhile) := by with_unfolding_all rfl
theorem turnB_eq : turnB = [nthS turnB 0, nthS turnB 1, nthS turnB 2, nthS turnB 3, nthS turnB 4] := by with_unfolding_all rfl
set_option maxRecDepth 100000 in
theorem read_test {w : World} {A : Around} {L : Addr} {s : Shared} {Q : Bool → Shared → Prop} {E : Value → Shared → Prop} (h : Q true s) : wpAny (model prog10 w) A (isTrue (testS readWhile) (readE L) (eval (testS readWhile) (readE L))) Q E s := by
  have hT : testS readWhile = testS readWhile := rfl
  conv at hT => rhs; whnf
  rw [hT]
  w_strict (k_steps)
  exact h
theorem allNq_app {d : Addr} : ∀ {a b : List (Addr × Obj)}, AllNq d a → AllNq d b → AllNq d (a ++ b)
  | [], _, _, h => h
  | _ :: _, _, h, k => ⟨h.1, allNq_app h.2 k⟩
theorem rd_len {items : List It} {i : Nat} {acc : List Tr} {o : Out} (h : RD items i acc o) : acc.length ≤ 100 → ∀ l a, o = .ok l a → l.length ≤ 101 := by
  induction h with
  | dot _ h2 _ ih => intro _ l a e; exact ih (by simp; omega) l a e
  | blank _ h2 => intro _ l a e; cases e; simp; omega
  | eof _ h2 => intro _ l a e; cases e; simp; omega
  | op _ _ h3 _ _ ih => intro _ l a e; exact ih (by simp; omega) l a e
  | opOut _ _ h3 _ => intro _ l a e; subst e; cases h3
  | _ => intro _ l a e; cases e
/-- the reader's loop, at one turn -/
def LoopI (S : SP) (P : Params) (g : Heap) (L hd : Addr) (hc : Heap) (i₀ : Nat) (o : Out) (s₁ : Shared) (n : Nat) (s' : Shared) : Prop :=
  ∃ h tk m i acc t np vs nh own, s' = { s₁ with heap := h, toks := tk } ∧ n = S.items.length + 2 - i ∧ i₀ ≤ i ∧ RD S.items i acc o ∧ acc.length ≤ 100 ∧ Fr g L h m ∧ m (Str.ofString "headers") = some (.ref hd) ∧ m (Str.ofString "fp") = some (.ref S.src) ∧
    News g L h ((hd, W.listOf (List.toArray vs) nh) :: S.ledo P i t np own) ∧ NeAll hd own ∧ NeAll S.pl own ∧ (∀ p ∈ own, hc.get? p.1 = none) ∧ vs.length = acc.length ∧ (∀ (j : Nat) v t, vs[j]? = some v → acc[j]? = some t → Rests own (fun a => hc.get? a = none) (opens S.items i₀) v t)
theorem rests_push {own own' : List (Addr × Obj)} {P : Addr → Prop} {d : Nat} {vs : List Value} {acc : List Tr} {v : Value} {t : Tr} (hl : vs.length = acc.length) (h : ∀ (j : Nat) v t, vs[j]? = some v → acc[j]? = some t → Rests own P d v t) (hv : Rests own' P d v t) (hs : ∀ p ∈ own, p ∈ own') :
    ∀ (j : Nat) v' t', (vs ++ [v])[j]? = some v' → (acc ++ [t])[j]? = some t' → Rests own' P d v' t' := by
  intro j v' t' h1 h2
  by_cases c : j < vs.length
  · rw [List.getElem?_append_left c] at h1
    rw [List.getElem?_append_left (by omega)] at h2
    exact (h j v' t' h1 h2).sub hs
  · have hj : j = vs.length := by
      have := (List.getElem?_eq_some_iff.mp h1).1
      simp at this; omega
    subst hj
    rw [List.getElem?_append_right (Nat.le_refl _)] at h1
    rw [hl, List.getElem?_append_right (Nat.le_refl _)] at h2
    simp at h1 h2
    subst h1; subst h2
    exact hv
section
variable {w : World} {mean : ExcName → Option Value} {mg mb : Str → Option Value} {dp un : Nat} {gd : Option (List Code)} {outer : List Env} {A₀ : Around} {base g hc : Heap} {L hd : Addr} {s₁ : Shared} {Q : Flow → Shared → Prop} {E : Value → Shared → Prop} {S : SP} {i₀ : Nat} {o : Out} {t₀ : Tok} {np₀ : Nat}
abbrev rdA (dp un : Nat) (gd : Option (List Code)) (L : Addr) (outer : List Env) : Around := ktrTop dp un gd (Str.ofString "_read_headers") readScope L 21 (.ref 20) [] outer
/-- an exception of the call of a line comes to the loop -/
def ExA (S : SP) (P : Params) (g : Heap) (L hd : Addr) (outer : List Env) (i₀ : Nat) (o : Out) (s₁ : Shared) (E : Value → Shared → Prop) : Prop :=
  ∀ e cls a0 h1 m1 h' tk' i1 t1 np1 vs nh own, Fr g L h1 m1 → News g L h1 ((hd, W.listOf (List.toArray vs) nh) :: S.ledo P i1 t1 np1 own) → i₀ ≤ i1 → ExcOf o h1 h' P e cls a0 → ExcP S.pl (readE L :: outer) h1 g L m1 o.pos e cls a0 h' → E (.ref e) { s₁ with heap := h', toks := tk' }
/-- the line that is one too many -/
def ExB (S : SP) (P : Params) (g : Heap) (L hd : Addr) (o : Out) (s₁ : Shared) (E : Value → Shared → Prop) : Prop :=
  ∀ e u h1 m1 h' tk' t1 np1 vs nh own, Fr g L h1 m1 → News g L h1 ((hd, W.listOf (List.toArray vs) nh) :: S.ledo P o.pos t1 np1 own) → h1.MadeExcOf h' e (.ref 31) [.str (Str.ofString "got more than 100 headers") u] → o = .many o.pos → E (.ref e) { s₁ with heap := h', toks := tk' }
set_option maxHeartbeats 2000000 in
theorem loop_turn (B : Below A₀ base outer g) (X : (hd10.heap_39 w.params).In g) (T : Top topProg loose10 mean mg mb g) (C : CodeHd base 138 134) (K : S.Ok w.params)
    (IH : ∀ i' o', i₀ < i' → i' ≤ S.items.length → RD S.items i' [] o' → ReadC w S i' o') (hq : AllNq hd (S.led w.params i₀ t₀ np₀)) (hhd : hd ≠ S.pl) (hkc : ∀ b o, hc.get? b = some o → b ≠ S.pl → g.get? b = some o ∨ (∃ o', (b, o') ∈ S.led w.params i₀ t₀ np₀))
    (hdp : dp + 2 * opens S.items i₀ + 7 < recursionLimit) (hun : un + 8 * opens S.items i₀ + 196 < cLine)
    (FR : ∀ h m i t np vs nh own, Fr g L h m → News g L h ((hd, W.listOf (List.toArray vs) nh) :: S.ledo w.params i t np own) → i₀ ≤ i → Fresh S w.params h i)
    (Qok : ∀ l a', o = .ok l a' → ∀ h tk m' t' np' vs nh own, Fr g L h m' → m' (Str.ofString "headers") = some (.ref hd) → News g L h ((hd, W.listOf (List.toArray vs) nh) :: S.ledo w.params a' t' np' own) → vs.length = l.length → (∀ (j : Nat) v t, vs[j]? = some v → l[j]? = some t → Rests own (fun a => hc.get? a = none) (opens S.items i₀) v t) → (∀ p ∈ own, hc.get? p.1 = none) → Q .next { s₁ with heap := h, toks := tk })
    (EA : ExA S w.params g L hd outer i₀ o s₁ E) (EB : ExB S w.params g L hd o s₁ E) :
    ∀ n s', LoopI S w.params g L hd hc i₀ o s₁ n s' → wpAny (model prog10 w) (rdA dp un gd L outer) (execs turnB (readE L)) (fun f s₃ => match f with | .next | .cont => ∃ n', n' < n ∧ LoopI S w.params g L hd hc i₀ o s₁ n' s₃ | .brk => Q .next s₃ | .ret v => Q (.ret v) s₃) E s' := by
  rintro n s' ⟨h, tk, m, i, acc, t, np, vs, nh, own, rfl, hn, hi, R, hacc, F, hmh, hmf, N, nh1, np1, hfr, hvl, hvr⟩
  rw [turnB_eq]
  have hopi := opens_le (items := S.items) hi
  have Nl : News g L h (S.led w.params i t np) := fun p hp => N p (.tail _ (by rw [ledo_app]; exact List.mem_append_left _ hp))
  have hlen := K.hlen
  have fresh := FR h m i t np vs nh own F N hi
  have hpl : ∃ j t np, h.get? S.pl = some (W.listOf #[.int j t] np) := ⟨_, _, _, (Nl _ (.head _)).1⟩
  have hqo : ∀ i t np own, NeAll hd own → AllNq hd (S.ledo w.params i t np own) := fun i t np own hno => by
    rw [ledo_app]
    exact allNq_app hq (allNq_of hno)
  have ef := map1_eq hmf
  have start : ∀ (Qb : Flow → Shared → Prop), (∀ t9 tk', wpAny (model prog10 w) (rdA dp un gd L outer) (PySem.call (.ref S.lf) [.int 65537 t9]) (fun v s₂ => wpAny (model prog10 w) (rdA dp un gd L outer) (storeName (readE L) (Str.ofString "line") v) (fun _ s₃ => wpAny (model prog10 w) (rdA dp un gd L outer) (execs [nthS turnB 1, nthS turnB 2, nthS turnB 3, nthS turnB 4] (readE L)) Qb E s₃) E s₂) E { s₁ with heap := h, toks := tk' }) →
      wpAny (model prog10 w) (rdA dp un gd L outer) (execs [nthS turnB 0, nthS turnB 1, nthS turnB 2, nthS turnB 3, nthS turnB 4] (readE L)) Qb E { s₁ with heap := h, toks := tk } := fun Qb hcall => wpAny_execs_cons (rl_stmt (m := m) (q := S.q) (mt := S.mt) (t9 := 0) (nh := 0) (own := own) B (ef ▸ F) X T C N (by omega) (by omega) K.LF fun t9 tk' => hcall t9 tk')
  have store : ∀ {v : Value} {h' : Heap} {i' : Nat} {t' : Tok} {np' : Nat} {tk' : Nat} {own' : List (Addr × Obj)} {Qs : Shared → Prop}, Fr g L h' m → News g L h' (S.led w.params i' t' np') → KeepBut S.pl h h' → (∀ p ∈ own', h'.get? p.1 = some p.2 ∧ p.1 ≠ L ∧ g.get? p.1 = none) →
      (∀ h2 tk2, Fr g L h2 (fun y => if y = Str.ofString "line" then some v else if y = Str.ofString "headers" then some (.ref hd) else m y) → News g L h2 ((hd, W.listOf (List.toArray vs) nh) :: S.ledo w.params i' t' np' (own' ++ own)) → Qs { s₁ with heap := h2, toks := tk2 }) →
      wpAny (model prog10 w) (rdA dp un gd L outer) (storeName (readE L) (Str.ofString "line") v) (fun _ s₃ => Qs s₃) E { s₁ with heap := h', toks := tk' } := by
    intro v h' i' t' np' tk' own' Qs F' N' kb ho' k
    refine wpAny_storeName_local line_local F'.ns (fun h2 n2 sb => ?_) read_plain
    have F2 := F'.set n2 sb
    rw [map2_eq hmh] at F2
    exact k h2 _ F2 (after_line (m := m) N N' kb hhd np1 sb ho')
  have next : ∀ {v : Value} {tr : Tr} {i' : Nat} {t' : Tok} {np' : Nat} {h3 : Heap} {tk3 : Nat} {own' : List (Addr × Obj)}, i < i' → i < S.items.length → RD S.items i' (acc ++ [tr]) o → acc.length < 100 → Fr g L h3 (fun y => if y = Str.ofString "line" then some v else if y = Str.ofString "headers" then some (.ref hd) else m y) → News g L h3 ((hd, W.listOf (List.toArray (vs ++ [v])) (nh + 1)) :: S.ledo w.params i' t' np' (own' ++ own)) → NeAll hd own' → NeAll S.pl own' → (∀ p ∈ own', hc.get? p.1 = none) → Rests (own' ++ own) (fun a => hc.get? a = none) (opens S.items i₀) v tr →
      ∃ n', n' < n ∧ LoopI S w.params g L hd hc i₀ o s₁ n' { s₁ with heap := h3, toks := tk3 } := by
    intro v tr i' t' np' h3 tk3 own' hii hil R' ha F3 N3 c1 c2 c3 rs
    have app : ∀ {x : Addr}, NeAll x own' → NeAll x own → NeAll x (own' ++ own) := fun a b p hp => (List.mem_append.mp hp).elim (a p) (b p)
    refine ⟨S.items.length + 2 - i', by omega, h3, tk3, _, i', acc ++ [tr], t', np', vs ++ [v], nh + 1, own' ++ own, rfl, rfl, by omega, R', by simp; omega, F3, ?_, ?_, N3, app c1 nh1, app c2 np1, fun p hp => (List.mem_append.mp hp).elim (c3 p) (hfr p), by simp [hvl], rests_push hvl hvr rs fun p hp => List.mem_append_right _ hp⟩
    · exact (if_neg (by decide)).trans (if_pos rfl)
    · exact (if_neg (by decide)).trans ((if_neg (by decide)).trans hmf)
  have leafR : ∀ (b : Array UInt8) (tb : Tok), Rests ([] ++ own) (fun a => hc.get? a = none) (opens S.items i₀) (.bytes b tb) (.leaf b.toList) := fun b tb h' _ => .leaf
  have none' : ∀ {h' : Heap}, ∀ p ∈ ([] : List (Addr × Obj)), h'.get? p.1 = some p.2 ∧ p.1 ≠ L ∧ g.get? p.1 = none := fun p hp => nomatch hp
  have item : ∀ (b : Array UInt8) (tb : Tok) (x : It), S.items[i]? = some x → x.val = .bytes b tb → (x.mark = 46 ∨ x.mark = 66) → ∀ (Qv : Value → Shared → Prop) tk', (∀ h' t' np' tk'', Fr g L h' m → News g L h' (S.led w.params (i + 1) t' np') → KeepBut S.pl h h' → Qv (.bytes b tb) { s₁ with heap := h', toks := tk'' }) → ∀ t9, wpAny (model prog10 w) (rdA dp un gd L outer) (PySem.call (.ref S.lf) [.int 65537 t9]) Qv E { s₁ with heap := h, toks := tk' } := by
    intro b tb x hx hv hm Qv tk' k t9
    refine line_item (x := x) B F X T read_kind C Nl K.d1 K.d2 K.d3 K.d4 K.LF K.hq K.hip (by omega) (by omega) hlen hx (List.getElem?_eq_some_iff.mp hx).1 hm fun h' t' np' tk'' F' N' kb => ?_
    rw [hv]
    exact k h' t' np' tk'' F' N' kb
  have toHc : ∀ a, h.get? a = none → hc.get? a = none := by
    intro a ha
    cases q : hc.get? a with
    | none => rfl
    | some ob =>
      by_cases c : a = S.pl
      · obtain ⟨j, t, np, z⟩ := hpl
        rw [← c, ha] at z
        cases z
      · rcases hkc a ob q c with z | ⟨o', z⟩
        · have z2 := F.keep _ _ z
          rw [ha] at z2
          cases z2
        · have z2 : ∃ o'', (a, o'') ∈ S.led w.params i t np := by
            rcases List.mem_cons.mp z with z | z
            · exact absurd (congrArg Prod.fst z) c
            · exact ⟨o', .tail _ z⟩
          obtain ⟨o'', z2⟩ := z2
          have z3 := (Nl _ z2).1
          rw [ha] at z3
          cases z3
  have len1 : ∀ (v : Value) (tr : Tr), (vs ++ [v]).length = (acc ++ [tr]).length := fun v tr => by simp [hvl]
  have hdr : ∀ (v : Value), (fun y => if y = Str.ofString "line" then some v else if y = Str.ofString "headers" then some (Value.ref hd) else m y) (Str.ofString "headers") = some (.ref hd) := fun v => (if_neg (by decide)).trans (if_pos rfl)
  cases R with
  | dot hx ha R' =>
    obtain ⟨n1, n2, n3⟩ := K.dot _ _ _ hx
    refine start _ fun t9 tk' => item _ _ _ hx rfl (.inl rfl) _ _ (fun h' t' np' tk'' F' N' kb => store (own' := []) F' N' kb none' fun h2 tk2 F2 N2 => ?_) t9
    refine rest_dot (q := S.q) (mt := S.mt) (t9 := 0) (own := own) B F2 X T N2 nh1 (hqo _ _ _ _ nh1) (by omega) (by omega) (by omega) (K.small _ _ _ (.inl hx)) (by simp [n1, n2, n3]) (fun h3 tk3 hv F3 N3 => ?_) (fun hv h3 h4 e u tk4 F3 N3 hM => absurd hv (by omega))
    exact next (own' := []) (Nat.lt_succ_self i) (List.getElem?_eq_some_iff.mp hx).1 R' ha F3 N3 (fun p hp => nomatch hp) (fun p hp => nomatch hp) (fun p hp => nomatch hp) (leafR _ _)
  | dotMany hx ha =>
    obtain ⟨n1, n2, n3⟩ := K.dot _ _ _ hx
    refine start _ fun t9 tk' => item _ _ _ hx rfl (.inl rfl) _ _ (fun h' t' np' tk'' F' N' kb => store (own' := []) F' N' kb none' fun h2 tk2 F2 N2 => ?_) t9
    refine rest_dot (q := S.q) (mt := S.mt) (t9 := 0) (own := own) B F2 X T N2 nh1 (hqo _ _ _ _ nh1) (by omega) (by omega) (by omega) (K.small _ _ _ (.inl hx)) (by simp [n1, n2, n3]) (fun h3 tk3 hv F3 N3 => absurd hv (by omega)) (fun hv h3 h4 e u tk4 F3 N3 hM => ?_)
    exact EB e u h3 _ h4 tk4 _ _ _ _ _ F3 N3 hM rfl
  | blank hx ha =>
    refine start _ fun t9 tk' => item _ _ _ hx rfl (.inr rfl) _ _ (fun h' t' np' tk'' F' N' kb => store (own' := []) F' N' kb none' fun h2 tk2 F2 N2 => ?_) t9
    refine rest_blank (q := S.q) (mt := S.mt) (t9 := 0) (own := own) B F2 X T N2 nh1 (hqo _ _ _ _ nh1) (by omega) (by omega) (by omega) (K.small _ _ _ (.inr hx)) (by rcases K.blank _ _ _ hx with z | z <;> subst z <;> rfl) (fun h3 tk3 hv F3 N3 => ?_) (fun hv h3 h4 e u tk4 F3 N3 hM => absurd hv (by omega))
    exact Qok _ _ rfl h3 tk3 _ _ _ _ _ own F3 (hdr _) N3 (len1 _ _) (rests_push hvl hvr (leafR _ _) fun p hp => hp) hfr
  | blankMany hx ha =>
    refine start _ fun t9 tk' => item _ _ _ hx rfl (.inr rfl) _ _ (fun h' t' np' tk'' F' N' kb => store (own' := []) F' N' kb none' fun h2 tk2 F2 N2 => ?_) t9
    refine rest_blank (q := S.q) (mt := S.mt) (t9 := 0) (own := own) B F2 X T N2 nh1 (hqo _ _ _ _ nh1) (by omega) (by omega) (by omega) (K.small _ _ _ (.inr hx)) (by rcases K.blank _ _ _ hx with z | z <;> subst z <;> rfl) (fun h3 tk3 hv F3 N3 => absurd hv (by omega)) (fun hv h3 h4 e u tk4 F3 N3 hM => ?_)
    exact EB e u h3 _ h4 tk4 _ _ _ _ _ F3 N3 hM rfl
  | eof hx ha =>
    refine start _ fun t9 tk' => line_eof B F X T read_kind C Nl K.d1 K.d2 K.d3 K.d4 K.LF K.hq K.hip (by omega) (by omega) hlen hx fun h' t' np' tk'' t5 F' N' kb => store (own' := []) F' N' kb none' fun h2 tk2 F2 N2 => ?_
    refine rest_blank (q := S.q) (mt := S.mt) (t9 := 0) (own := own) B F2 X T N2 nh1 (hqo _ _ _ _ nh1) (by omega) (by omega) (by omega) (by decide) rfl (fun h3 tk3 hv F3 N3 => ?_) (fun hv h3 h4 e u tk4 F3 N3 hM => absurd hv (by omega))
    exact Qok _ _ rfl h3 tk3 _ _ _ _ _ own F3 (hdr _) N3 (len1 _ _) (rests_push hvl hvr (leafR _ _) fun p hp => hp) hfr
  | eofMany hx ha =>
    refine start _ fun t9 tk' => line_eof B F X T read_kind C Nl K.d1 K.d2 K.d3 K.d4 K.LF K.hq K.hip (by omega) (by omega) hlen hx fun h' t' np' tk'' t5 F' N' kb => store (own' := []) F' N' kb none' fun h2 tk2 F2 N2 => ?_
    refine rest_blank (q := S.q) (mt := S.mt) (t9 := 0) (own := own) B F2 X T N2 nh1 (hqo _ _ _ _ nh1) (by omega) (by omega) (by omega) (by decide) rfl (fun h3 tk3 hv F3 N3 => absurd hv (by omega)) (fun hv h3 h4 e u tk4 F3 N3 hM => ?_)
    exact EB e u h3 _ h4 tk4 _ _ _ _ _ F3 N3 hM rfl
  | err hx =>
    obtain ⟨oe, cls, a0, ho, P⟩ := fresh i _ (Nat.le_refl _) hx
    have el := K.eled _ _ hx
    refine start _ fun t9 tk' => line_err B F X T read_kind C Nl K.d1 K.d2 K.d3 K.d4 K.LF K.hq K.hip (by omega) (by omega) hlen hx (List.getElem?_eq_some_iff.mp hx).1 rfl ho P (fun p hp => ?_) fun h' tk'' EP => ?_
    · rcases List.mem_cons.mp hp with rfl | hp
      · exact el (S.pl, W.listOf #[.int ((0 : Nat) : Int) 0] 0) (.head _)
      · exact el _ (.tail _ hp)
    · exact EA _ cls a0 h m h' tk'' i t np vs nh own F N hi ⟨rfl, oe, ho, P⟩ EP
  | op hx R1 ha R2 =>
    have hil := (List.getElem?_eq_some_iff.mp hx).1
    refine start _ fun t9 tk' => line_op (mt := S.mt) B F X T read_kind C Nl K.d1 K.d2 K.d3 K.d4 K.LF K.hq K.hip (by omega) (by omega) hlen hx hil rfl fresh (IH (i + 1) _ (by omega) (by omega) R1) (fun e' a' z => by cases z) (fun l a' eo r h' t' np' tk'' F' N' kb lay => ?_) (fun e cls a0 h' tk'' EO EP => EO.elim)
    cases eo
    obtain ⟨own', q1, q2, q3⟩ := lay_rests lay
    obtain ⟨vr, nr, hr, hrl⟩ := q3 r rfl
    have q4 : ∀ p ∈ own', h'.get? p.1 = some p.2 ∧ p.1 ≠ L ∧ g.get? p.1 = none := fun p hp => by
      have z := q1 p hp
      refine ⟨z.1, fun e => ?_, ?_⟩
      · obtain ⟨oL, es, ep, hL, _⟩ := F.ns
        have z2 : h.get? p.1 = none := z.2
        rw [e, hL] at z2
        cases z2
      · cases q : g.get? p.1 with
        | none => rfl
        | some ob =>
          have z2 := F.keep _ _ q
          have z3 : h.get? p.1 = none := z.2
          rw [z3] at z2
          cases z2
    have n1 : NeAll hd own' := fun p hp e => by
      have z : h.get? p.1 = none := (q1 p hp).2
      rw [e, (N _ (.head _)).1] at z
      cases z
    have n2 : NeAll S.pl own' := fun p hp e => by
      have z : h.get? p.1 = none := (q1 p hp).2
      rw [e, (Nl _ (.head _)).1] at z
      cases z
    have n3 : NeAll hd (own' ++ own) := fun p hp => (List.mem_append.mp hp).elim (n1 p) (nh1 p)
    have rs : Rests (own' ++ own) (fun a => hc.get? a = none) (opens S.items i₀) (.ref r) (.node _) := fun h'' k => ((q2 h'' fun p hp => k p (List.mem_append_left _ hp)).imp fun a ha => toHc a ha).more hopi
    refine store (own' := own') F' N' kb q4 fun h2 tk2 F2 N2 => ?_
    refine rest_list (q := S.q) (mt := S.mt) (t9 := 0) (own := own' ++ own) B F2 X T N2 n3 (hqo _ _ _ _ n3) (by omega) (by omega) (by omega) (List.mem_append_left _ hr) (by rw [hrl _ rfl]; exact rd_len R1 (by simp) _ _ rfl) (fun h3 tk3 hv F3 N3 => ?_) (fun hv h3 h4 e u tk4 F3 N3 hM => absurd hv (by omega))
    exact next (own' := own') (by have := rd_lt R1; exact Nat.lt_trans (Nat.lt_succ_self i) this) hil R2 ha F3 N3 n1 n2 (fun p hp => toHc _ (q1 p hp).2) rs
  | opMany hx R1 ha =>
    have hil := (List.getElem?_eq_some_iff.mp hx).1
    refine start _ fun t9 tk' => line_op (mt := S.mt) B F X T read_kind C Nl K.d1 K.d2 K.d3 K.d4 K.LF K.hq K.hip (by omega) (by omega) hlen hx hil rfl fresh (IH (i + 1) _ (by omega) (by omega) R1) (fun e' a' z => by cases z) (fun l a' eo r h' t' np' tk'' F' N' kb lay => ?_) (fun e cls a0 h' tk'' EO EP => EO.elim)
    cases eo
    obtain ⟨own', q1, q2, q3⟩ := lay_rests lay
    obtain ⟨vr, nr, hr, hrl⟩ := q3 r rfl
    have q4 : ∀ p ∈ own', h'.get? p.1 = some p.2 ∧ p.1 ≠ L ∧ g.get? p.1 = none := fun p hp => by
      have z := q1 p hp
      refine ⟨z.1, fun e => ?_, ?_⟩
      · obtain ⟨oL, es, ep, hL, _⟩ := F.ns
        have z2 : h.get? p.1 = none := z.2
        rw [e, hL] at z2
        cases z2
      · cases q : g.get? p.1 with
        | none => rfl
        | some ob =>
          have z2 := F.keep _ _ q
          have z3 : h.get? p.1 = none := z.2
          rw [z3] at z2
          cases z2
    have n1 : NeAll hd own' := fun p hp e => by
      have z : h.get? p.1 = none := (q1 p hp).2
      rw [e, (N _ (.head _)).1] at z
      cases z
    have n2 : NeAll S.pl own' := fun p hp e => by
      have z : h.get? p.1 = none := (q1 p hp).2
      rw [e, (Nl _ (.head _)).1] at z
      cases z
    have n3 : NeAll hd (own' ++ own) := fun p hp => (List.mem_append.mp hp).elim (n1 p) (nh1 p)
    have rs : Rests (own' ++ own) (fun a => hc.get? a = none) (opens S.items i₀) (.ref r) (.node _) := fun h'' k => ((q2 h'' fun p hp => k p (List.mem_append_left _ hp)).imp fun a ha => toHc a ha).more hopi
    refine store (own' := own') F' N' kb q4 fun h2 tk2 F2 N2 => ?_
    refine rest_list (q := S.q) (mt := S.mt) (t9 := 0) (own := own' ++ own) B F2 X T N2 n3 (hqo _ _ _ _ n3) (by omega) (by omega) (by omega) (List.mem_append_left _ hr) (by rw [hrl _ rfl]; exact rd_len R1 (by simp) _ _ rfl) (fun h3 tk3 hv F3 N3 => absurd hv (by omega)) (fun hv h3 h4 e u tk4 F3 N3 hM => ?_)
    exact EB e u h3 _ h4 tk4 _ _ _ _ _ F3 N3 hM rfl
  | opOut hx R1 ho =>
    have hil := (List.getElem?_eq_some_iff.mp hx).1
    refine start _ fun t9 tk' => line_op (mt := S.mt) B F X T read_kind C Nl K.d1 K.d2 K.d3 K.d4 K.LF K.hq K.hip (by omega) (by omega) hlen hx hil rfl fresh (IH (i + 1) _ (by omega) (by omega) R1) (fun e' a' z => ?_) (fun l a' eo => ?_) (fun e cls a0 h' tk'' EO EP => ?_)
    · obtain ⟨j, h1, h2⟩ := rd_err R1 e' a' z
      exact ⟨j, by omega, h2⟩
    · subst eo; cases ho
    · exact EA e cls a0 h m h' tk'' i t np vs nh own F N hi EO EP
end
end Mine
end

-- RgI10
section
theorem Mine.offRgI10 : True := by
  w_top off
  trivial
open PySem PySem.W PyProof.Rows PySem.Calls
set_option linter.unusedVariables false
namespace Mine
open Mine10
/-- the values of an open list and what they are -/
def EL (own : List (Addr × Obj)) (d : Nat) (vs : List Value) (ts : List Tr) : Prop := vs.length = ts.length ∧ ∀ (j : Nat) v t, vs[j]? = some v → ts[j]? = some t → Rests own (fun _ => True) d v t
theorem EL.more {own own' : List (Addr × Obj)} {d d' : Nat} {vs : List Value} {ts : List Tr} (x : EL own d vs ts) (hs : ∀ p ∈ own, p ∈ own') (hd : d ≤ d') : EL own' d' vs ts := ⟨x.1, fun j v t a b h' k => (x.2 j v t a b h' fun p hp => k p (hs p hp)).more hd⟩
theorem EL.push {own : List (Addr × Obj)} {d : Nat} {vs : List Value} {ts : List Tr} {v : Value} {t : Tr} (x : EL own d vs ts) (hv : Rests own (fun _ => True) d v t) : EL own d (vs ++ [v]) (ts ++ [t]) :=
  ⟨by simp [x.1], rests_push x.1 x.2 hv fun p hp => hp⟩
theorem EL.node {own : List (Addr × Obj)} {d : Nat} {vs : List Value} {ts : List Tr} {a : Addr} {n : Nat} (x : EL own d vs ts) : Rests ((a, W.listOf vs.toArray n) :: own) (fun _ => True) (d + 1) (.ref a) (.node ts) :=
  fun h' k => .node trivial (k _ (.head _)) x.1 fun j v t e1 e2 => x.2 j v t e1 e2 h' fun p hp => k p (.tail _ hp)
abbrev Bel := List (Addr × List Value × Nat)
abbrev belL (b : Bel) : List (Addr × Obj) := b.map fun x => (x.1, W.listOf (List.toArray x.2.1) x.2.2)
abbrev belR (b : Bel) : List Value := (b.map fun x => Value.ref x.1).reverse
def BR (own : List (Addr × Obj)) (d : Nat) : Bel → List (List Tr) → Prop
  | [], [] => True
  | b :: bs, r :: rs => EL own d b.2.1 r ∧ r.length ≤ 100 ∧ BR own d bs rs
  | _, _ => False
theorem BR.more {own own' : List (Addr × Obj)} {d d' : Nat} (hs : ∀ p ∈ own, p ∈ own') (hd : d ≤ d') : ∀ {b : Bel} {r : List (List Tr)}, BR own d b r → BR own' d' b r
  | [], [], _ => trivial
  | _ :: _, _ :: _, h => ⟨h.1.more hs hd, h.2.1, BR.more hs hd h.2.2⟩
  | [], _ :: _, h => h
  | _ :: _, [], h => h
theorem BR.len {own : List (Addr × Obj)} {d : Nat} : ∀ {b : Bel} {r : List (List Tr)}, BR own d b r → b.length = r.length
  | [], [], _ => rfl
  | _ :: _, _ :: _, h => by simp [BR.len h.2.2]
  | [], _ :: _, h => h.elim
  | _ :: _, [], h => h.elim
/-- the open lists lie apart -/
def Dis (sk it : Addr) (own : List (Addr × Obj)) : List Addr → Prop
  | [] => True
  | a :: as => @Ne Nat sk a ∧ @Ne Nat a it ∧ (∀ b ∈ as, @Ne Nat b a) ∧ NeAll a own ∧ Dis sk it own as
theorem Dis.more {sk it : Addr} {own own' : List (Addr × Obj)} : ∀ {as : List Addr}, (∀ a ∈ as, NeAll a own → NeAll a own') → Dis sk it own as → Dis sk it own' as
  | [], _, _ => trivial
  | a :: as, k, h => ⟨h.1, h.2.1, h.2.2.1, k a (.head _) h.2.2.2.1, Dis.more (fun b hb => k b (.tail _ hb)) h.2.2.2.2⟩
theorem Dis.sk {sk it : Addr} {own : List (Addr × Obj)} : ∀ {as : List Addr}, Dis sk it own as → ∀ a ∈ as, @Ne Nat sk a
  | _ :: _, h, a, ha => by
    rcases List.mem_cons.mp ha with rfl | ha
    · exact h.1
    · exact Dis.sk h.2.2.2.2 a ha
theorem ne_bel {x : Addr} {b : Bel} {own : List (Addr × Obj)} (h1 : ∀ a ∈ b.map (·.1), @Ne Nat a x) (h2 : NeAll x own) : NeAll x (belL b ++ own) := fun p hp => by
  rcases List.mem_append.mp hp with hp | hp
  · obtain ⟨y, hy, rfl⟩ := List.mem_map.mp hp
    exact h1 _ (List.mem_map_of_mem hy)
  · exact h2 p hp
end Mine
end

-- RgL10
section
theorem Mine.offRgL10 : True := by
  w_top off
  trivial
open PySem PySem.W PyProof.Rows PySem.Calls
set_option linter.unusedVariables false
namespace Mine
open Mine10
theorem mapR_eq {m : Str → Option Value} {i : Nat} {t : Tok} {sk it : Addr} {mk : Str} {mt : Tok} (h1 : m (Str.ofString "at") = some (.int (i : Int) t)) (h2 : m (Str.ofString "stack") = some (.ref sk)) (h3 : m (Str.ofString "items") = some (.ref it)) (h4 : m (Str.ofString "marks") = some (.str mk mt)) : m = mapR m i t sk it mk mt := by
  refine funext fun y => ?_
  unfold mapR
  by_cases c1 : y = Str.ofString "at"
  · subst c1; exact h1
  · rw [if_neg c1]
    by_cases c2 : y = Str.ofString "stack"
    · subst c2; exact h2
    · rw [if_neg c2]
      by_cases c3 : y = Str.ofString "items"
      · subst c3; exact h3
      · rw [if_neg c3]
        by_cases c4 : y = Str.ofString "marks"
        · subst c4; exact h4
        · rw [if_neg c4]
theorem rgT_eq : rgT = [nthS rgT 0, nthS rgT 1, nthS rgT 2, nthS rgT 3] := by with_unfolding_all rfl
/-- what the reading gives -/
def RV (o : Out) (V : Value) (own : List (Addr × Obj)) : Prop :=
  match o with
  | .ok l _ => ∃ r d, V = .ref r ∧ Rests own (fun _ => True) d V (.node l)
  | .err e _ => V = .ref e
  | .many _ => V = .none
def RgI (items : List It) (it sk : Addr) (mt : Tok) (ni : Nat) (g : Heap) (L : Addr) (o : Out) (s₁ : Shared) (n : Nat) (s' : Shared) : Prop :=
  ∃ h tk m i t top vt nt n' below own ts rs, s' = { s₁ with heap := h, toks := tk } ∧ n = 2 * (items.length + 1 - i) + rs.length ∧ SM items i ts rs o ∧ Fr g L h m ∧ m (Str.ofString "at") = some (.int (i : Int) t) ∧ m (Str.ofString "stack") = some (.ref sk) ∧ m (Str.ofString "items") = some (.ref it) ∧ m (Str.ofString "marks") = some (.str (marksOf items) mt) ∧
    News g L h ((sk, W.listOf (belR below ++ [Value.ref top]).toArray n') :: (top, W.listOf (List.toArray vt) nt) :: (it, W.listOf (items.map It.val).toArray ni) :: (belL below ++ own)) ∧ EL own i vt ts ∧ ts.length ≤ 100 ∧ BR own i below rs ∧ Dis sk it own (top :: below.map (·.1)) ∧ NeAll sk own ∧ @Ne Nat sk it ∧ rs.length + opens items i ≤ 100
set_option maxHeartbeats 2000000 in
theorem rg_turn {w : World} {mean : ExcName → Option Value} {mg mb : Str → Option Value} {dp un : Nat} {gd : Option (List Code)} {outer : List Env} {A₀ : Around} {base g : Heap} {L it sk : Addr} {s₁ : Shared} {Q : Flow → Shared → Prop} {E : Value → Shared → Prop} {items : List It} {mt : Tok} {ni : Nat} {o : Out}
    (B : Below A₀ base outer g) (X : (hd10.heap_39 w.params).In g) (T : Top topProg loose10 mean mg mb g) (hlen : items.length ≤ 1000) (h2 : 1 < items.length) (hdp : dp + 5 < recursionLimit) (hun : un + 100 < cLine)
    (Qret : ∀ V D h tk m' tt own', Fr g L h m' → News g L h ((D, ({ cls := .type "tuple", data := .seq #[V, .int (o.pos : Int) tt] } : Obj)) :: own') → RV o V own' → (it, W.listOf (items.map It.val).toArray ni) ∈ own' → Q (.ret (.ref D)) { s₁ with heap := h, toks := tk }) :
    ∀ n s', RgI items it sk mt ni g L o s₁ n s' → wpAny (model prog10 w) (rgA dp un gd L outer) (execs rgT (rgE L)) (fun f s₃ => match f with | .next | .cont => ∃ n', n' < n ∧ RgI items it sk mt ni g L o s₁ n' s₃ | .brk => Q .next s₃ | .ret v => Q (.ret v) s₃) E s' := by
  rintro n s' ⟨h, tk, m, i, t, top, vt, nt, n', below, own, ts, rs, rfl, hn, S, F, m1, m2, m3, m4, N, hel, hts, hbr, hdis, hsk, hsi, hop⟩
  rw [rgT_eq]
  have em := mapR_eq m1 m2 m3 m4
  have F' : Fr g L h (mapR m i t sk it (marksOf items) mt) := em ▸ F
  have hvt : vt.length ≤ 100 := by rw [hel.1]; exact hts
  have hbl := hbr.len
  have hrl : (belR below).length ≤ 900 := by simp; omega
  have hs1 : NeAll sk (belL below ++ own) := ne_bel (fun a ha => Ne.symm (hdis.sk a (.tail _ ha))) hsk
  have ht1 : NeAll top (belL below ++ own) := ne_bel hdis.2.2.1 hdis.2.2.2.1
  have hq1 : @Ne Nat sk top ∧ @Ne Nat sk it ∧ @Ne Nat top it := ⟨hdis.1, hsi, hdis.2.1⟩
  have ho1 : opens items (i + 1) ≤ opens items i := opens_le (Nat.le_succ i)
  have leafR : ∀ (own : List (Addr × Obj)) (d : Nat) (b : Array UInt8) (tb : Tok), Rests own (fun _ => True) d (.bytes b tb) (.leaf b.toList) := fun own d b tb h' _ => .leaf
  have mk : ∀ {x : It}, items[i]? = some x → ∀ {ms : Str}, (⟨#[x.mark]⟩ : Str) = ms → Txt.slice (marksOf items) (some (i : Int)) (some ((i : Int) + 1)) = ms := fun hx _ e => (slice_mark hx h2).trans e
  have mk0 : items.length ≤ i → Txt.slice (marksOf items) (some (i : Int)) (some ((i : Int) + 1)) = Str.ofString "" := fun hi => (slice_end hi h2).trans (by decide)
  have closeF : ∀ b' bs, below = b' :: bs → News g L h ((sk, W.listOf ((belR bs ++ [Value.ref b'.1]) ++ [Value.ref top]).toArray n') :: (top, W.listOf (List.toArray vt) nt) :: (b'.1, W.listOf (List.toArray b'.2.1) b'.2.2) :: (it, W.listOf (items.map It.val).toArray ni) :: (belL bs ++ own)) ∧ (belR bs).length ≤ 900 ∧ NeAll sk (belL bs ++ own) ∧ NeAll top (belL bs ++ own) ∧ (@Ne Nat sk b'.1 ∧ @Ne Nat top b'.1 ∧ @Ne Nat b'.1 it) ∧ NeAll b'.1 (belL bs ++ own) := by
    rintro b' bs rfl
    have hd2 := hdis.2.2.2.2
    refine ⟨fun p hp => N p ?_, ?_, fun p hp => hs1 p (.tail _ hp), fun p hp => ht1 p (.tail _ hp), ⟨hd2.1, Ne.symm (hdis.2.2.1 _ (.head _)), hd2.2.1⟩, ne_bel hd2.2.2.1 hd2.2.2.2.1⟩
    · rcases List.mem_cons.mp hp with rfl | hp
      · rw [show (belR bs ++ [Value.ref b'.1]) ++ [Value.ref top] = belR (b' :: bs) ++ [Value.ref top] by simp [belR]]
        exact .head _
      · rcases List.mem_cons.mp hp with rfl | hp
        · exact .tail _ (.head _)
        · rcases List.mem_cons.mp hp with rfl | hp
          · exact .tail _ (.tail _ (.tail _ (.head _)))
          · rcases List.mem_cons.mp hp with rfl | hp
            · exact .tail _ (.tail _ (.head _))
            · exact .tail _ (.tail _ (.tail _ (.tail _ hp)))
    · simp at hrl ⊢; omega
  cases S with
  | dot hx ha S' =>
    refine rg_dot (x := .dot _ _) B F' X T N hun hdp hlen hrl hvt hq1 hs1 ht1 hx (List.getElem?_eq_some_iff.mp hx).1 (mk hx (show (⟨#[46]⟩ : Str) = Str.ofString "." by decide)) (fun h' tk' m' t' _ F2 e1 e2 e3 e4 N2 hv => ?_) (fun D h' tk' m' tt hv F2 N2 => absurd hv (by rw [hel.1]; omega))
    have hil := (List.getElem?_eq_some_iff.mp hx).1
    exact ⟨2 * (items.length + 1 - (i + 1)) + rs.length, by omega, h', tk', m', i + 1, t', top, _, _, _, below, own, _, rs, rfl, rfl, S', F2, e1, e2, e3, e4, N2, (hel.more (fun p hp => hp) (Nat.le_succ i)).push (leafR _ _ _ _), by simp; omega, hbr.more (fun p hp => hp) (Nat.le_succ i), hdis, hsk, hsi, by omega⟩
  | err hx =>
    refine rg_err (x := .err _) B F' X T N hun hdp hlen hrl hvt hq1 hs1 ht1 hx (List.getElem?_eq_some_iff.mp hx).1 (mk hx (show (⟨#[33]⟩ : Str) = Str.ofString "!" by decide)) (fun D h' tk' m' tt F2 N2 => ?_)
    exact Qret _ D h' tk' m' tt _ F2 N2 rfl (.head _)
  | op hx S' =>
    refine rg_op (x := .op) B F' X T N hun hdp hlen hrl hvt hq1 hs1 ht1 hx (List.getElem?_eq_some_iff.mp hx).1 (mk hx (show (⟨#[40]⟩ : Str) = Str.ofString "(" by decide)) (fun nl h' tk' m' t' n2 F2 e1 e2 e3 e4 N2 hlt => ?_)
    have hil := (List.getElem?_eq_some_iff.mp hx).1
    have hoo := opens_op hx
    have hnl : NeAll nl (belL below ++ own) := neAll_lt hlt.2.2.2
    refine ⟨2 * (items.length + 1 - (i + 1)) + (ts :: rs).length, by simp; omega, h', tk', m', i + 1, t', nl, [], 0, n2, (top, vt, nt) :: below, own, [], ts :: rs, rfl, rfl, S', F2, e1, e2, e3, e4, fun p hp => N2 p ?_, ⟨rfl, fun j v t h => by simp at h⟩, by simp, ⟨hel.more (fun p hp => hp) (Nat.le_succ i), hts, hbr.more (fun p hp => hp) (Nat.le_succ i)⟩, ?_, hsk, hsi, by simp; omega⟩
    · rcases List.mem_cons.mp hp with rfl | hp
      · rw [show belR ((top, vt, nt) :: below) ++ [Value.ref nl] = (belR below ++ [Value.ref top]) ++ [Value.ref nl] by simp [belR]]
        exact .head _
      · rcases List.mem_cons.mp hp with rfl | hp
        · exact .tail _ (.head _)
        · rcases List.mem_cons.mp hp with rfl | hp
          · exact .tail _ (.tail _ (.tail _ (.head _)))
          · rcases List.mem_cons.mp hp with rfl | hp
            · exact .tail _ (.tail _ (.head _))
            · exact .tail _ (.tail _ (.tail _ (.tail _ hp)))
    · refine ⟨Nat.ne_of_lt hlt.1, Ne.symm (Nat.ne_of_lt hlt.2.2.1), fun b hb => ?_, fun p hp => hnl p (List.mem_append_right _ hp), hdis⟩
      rcases List.mem_cons.mp hb with rfl | hb
      · exact Nat.ne_of_lt hlt.2.1
      · obtain ⟨y, hy, rfl⟩ := List.mem_map.mp hb
        exact hnl _ (List.mem_append_left _ (List.mem_map_of_mem hy))
  | many hx ha =>
    have hv : vt.length = 100 := by rw [hel.1]; exact ha
    rcases hx with hx | hx | hx
    · exact rg_dot (x := .dot _ _) B F' X T N hun hdp hlen hrl hvt hq1 hs1 ht1 hx (List.getElem?_eq_some_iff.mp hx).1 (mk hx (show (⟨#[46]⟩ : Str) = Str.ofString "." by decide)) (fun h' tk' m' t' _ F2 e1 e2 e3 e4 N2 hv' => absurd hv (by omega)) (fun D h' tk' m' tt hv F2 N2 => Qret _ D h' tk' m' tt _ F2 N2 rfl (.head _))
    · cases below with
      | nil => exact rg_last_blank (refs := []) (x := .blank _ _) B F' X T N hun hdp hlen (by simp) hvt hq1 hs1 ht1 hx (List.getElem?_eq_some_iff.mp hx).1 (mk hx (show (⟨#[66]⟩ : Str) = Str.ofString "B" by decide)) (fun D h' tk' m' tt hv F2 N2 => Qret _ D h' tk' m' tt _ F2 N2 rfl (.head _)) (fun D h' tk' m' tt hv' => absurd hv (by omega))
      | cons b' bs =>
        cases rs with
        | nil => exact hbr.elim
        | cons r' rs' =>
          obtain ⟨c1, c2, c3, c4, c5, c6⟩ := closeF b' bs rfl
          exact rg_close_blank (x := .blank _ _) B F' X T c1 hun hdp hlen c2 hvt hq1 c3 c4 hx (List.getElem?_eq_some_iff.mp hx).1 (mk hx (show (⟨#[66]⟩ : Str) = Str.ofString "B" by decide)) c5 c6 (by rw [hbr.1.1]; exact hbr.2.1) (fun D h' tk' m' tt hv F2 N2 => Qret _ D h' tk' m' tt _ F2 N2 rfl (.head _)) (fun h' tk' m' t' n2 F2 e1 e2 e3 e4 N2 hv' => absurd hv (by omega))
    · cases below with
      | nil => exact rg_last_eof (refs := []) B F' X T N hun hdp hlen (by simp) hvt hq1 hs1 ht1 hx (mk0 hx) (fun D h' tk' m' tt _ hv F2 N2 => Qret _ D h' tk' m' tt _ F2 N2 rfl (.head _)) (fun D h' tk' m' tt _ hv' => absurd hv (by omega))
      | cons b' bs =>
        cases rs with
        | nil => exact hbr.elim
        | cons r' rs' =>
          obtain ⟨c1, c2, c3, c4, c5, c6⟩ := closeF b' bs rfl
          exact rg_close_eof B F' X T c1 hun hdp hlen c2 hvt hq1 c3 c4 hx (mk0 hx) c5 c6 (by rw [hbr.1.1]; exact hbr.2.1) (fun D h' tk' m' tt _ hv F2 N2 => Qret _ D h' tk' m' tt _ F2 N2 rfl (.head _)) (fun h' tk' m' t' n2 _ F2 e1 e2 e3 e4 N2 hv' => absurd hv (by omega))
  | last hx ha =>
    have hv : vt.length < 100 := by rw [hel.1]; exact ha
    cases below with
    | cons b' bs => exact hbr.elim
    | nil =>
      have own2 : ∀ {e1 e2 : Addr × Obj}, ∀ p ∈ e1 :: own, p ∈ e1 :: e2 :: (belL [] ++ own) := fun p hp => by
        rcases List.mem_cons.mp hp with rfl | hp
        · exact .head _
        · exact .tail _ (.tail _ hp)
      rcases hx with ⟨tb, hx⟩ | ⟨hx, rfl⟩
      · exact rg_last_blank (refs := []) (x := .blank _ _) B F' X T N hun hdp hlen (by simp) hvt hq1 hs1 ht1 hx (List.getElem?_eq_some_iff.mp hx).1 (mk hx (show (⟨#[66]⟩ : Str) = Str.ofString "B" by decide)) (fun D h' tk' m' tt hv' => absurd hv (by omega)) (fun D h' tk' m' tt hv F2 N2 => Qret _ D h' tk' m' tt _ F2 N2 ⟨top, i + 1, rfl, (EL.node (hel.push (leafR _ _ _ _))).sub own2⟩ (.tail _ (.head _)))
      · exact rg_last_eof (refs := []) B F' X T N hun hdp hlen (by simp) hvt hq1 hs1 ht1 hx (mk0 hx) (fun D h' tk' m' tt _ hv' => absurd hv (by omega)) (fun D h' tk' m' tt t5 hv F2 N2 => Qret _ D h' tk' m' tt _ F2 N2 ⟨top, i + 1, rfl, (EL.node (hel.push (leafR _ _ #[] t5))).sub own2⟩ (.tail _ (.head _)))
  | @close _ _ bb rr rs' _ hx ha hb S' =>
    have hv : vt.length < 100 := by rw [hel.1]; exact ha
    cases below with
    | nil => exact hbr.elim
    | cons b' bs =>
      obtain ⟨c1, c2, c3, c4, c5, c6⟩ := closeF b' bs rfl
      have hvr : b'.2.1.length < 100 := by rw [hbr.1.1]; exact hb
      have fin : ∀ {h' tk' m' t' n2} {v : Value} {tr : Tr}, (∀ own d, Rests own (fun _ => True) d v tr) → SM items (i + 1) (rr ++ [.node (ts ++ [tr])]) rs' o → Fr g L h' m' → m' (Str.ofString "at") = some (.int ((i + 1 : Nat) : Int) t') → m' (Str.ofString "stack") = some (.ref sk) → m' (Str.ofString "items") = some (.ref it) → m' (Str.ofString "marks") = some (.str (marksOf items) mt) →
          News g L h' ((sk, W.listOf (belR bs ++ [Value.ref b'.1]).toArray n2) :: (b'.1, W.listOf (b'.2.1 ++ [Value.ref top]).toArray (b'.2.2 + 1)) :: (top, W.listOf (vt ++ [v]).toArray (nt + 1)) :: (it, W.listOf (items.map It.val).toArray ni) :: (belL bs ++ own)) → ∃ n', n' < n ∧ RgI items it sk mt ni g L o s₁ n' { s₁ with heap := h', toks := tk' } := by
        intro h' tk' m' t' n2 v tr lr S' F2 e1 e2 e3 e4 N2
        have sub : ∀ p ∈ own, p ∈ (top, W.listOf (vt ++ [v]).toArray (nt + 1)) :: own := fun p hp => .tail _ hp
        refine ⟨2 * (items.length + 1 - (i + 1)) + rs'.length, ?_, h', tk', m', i + 1, t', b'.1, b'.2.1 ++ [Value.ref top], b'.2.2 + 1, n2, bs, (top, W.listOf (vt ++ [v]).toArray (nt + 1)) :: own, rr ++ [.node (ts ++ [tr])], rs', rfl, rfl, S', F2, e1, e2, e3, e4, fun p hp => N2 p ?_, (hbr.1.more sub (Nat.le_succ i)).push (EL.node (hel.push (lr _ _))), by simp; omega, hbr.2.2.more sub (Nat.le_succ i), ?_, ?_, hsi, ?_⟩
        · simp only [List.length_cons] at hn; omega
        · rcases List.mem_cons.mp hp with rfl | hp
          · exact .head _
          · rcases List.mem_cons.mp hp with rfl | hp
            · exact .tail _ (.head _)
            · rcases List.mem_cons.mp hp with rfl | hp
              · exact .tail _ (.tail _ (.tail _ (.head _)))
              · rcases List.mem_append.mp hp with hp | hp
                · exact .tail _ (.tail _ (.tail _ (.tail _ (List.mem_append_left _ hp))))
                · rcases List.mem_cons.mp hp with rfl | hp
                  · exact .tail _ (.tail _ (.head _))
                  · exact .tail _ (.tail _ (.tail _ (.tail _ (List.mem_append_right _ hp))))
        · exact Dis.more (fun a ha q => neCons (Ne.symm (hdis.2.2.1 a ha)) q) hdis.2.2.2.2
        · exact neCons (Ne.symm hdis.1) hsk
        · simp only [List.length_cons] at hop; omega
      rcases hx with ⟨tb, hx⟩ | ⟨hx, rfl⟩
      · exact rg_close_blank (x := .blank _ _) B F' X T c1 hun hdp hlen c2 hvt hq1 c3 c4 hx (List.getElem?_eq_some_iff.mp hx).1 (mk hx (show (⟨#[66]⟩ : Str) = Str.ofString "B" by decide)) c5 c6 (by omega) (fun D h' tk' m' tt hv' => absurd hv' (by omega)) (fun h' tk' m' t' n2 F2 e1 e2 e3 e4 N2 _ _ => fin (fun own d => leafR own d _ _) S' F2 e1 e2 e3 e4 N2)
      · exact rg_close_eof B F' X T c1 hun hdp hlen c2 hvt hq1 c3 c4 hx (mk0 hx) c5 c6 (by omega) (fun D h' tk' m' tt _ hv' => absurd hv' (by omega)) (fun h' tk' m' t' n2 t5 F2 e1 e2 e3 e4 N2 _ _ => fin (fun own d => leafR own d #[] t5) S' F2 e1 e2 e3 e4 N2)
  | closeMany hx ha hb =>
    have hv : vt.length < 100 := by rw [hel.1]; exact ha
    cases below with
    | nil => exact hbr.elim
    | cons b' bs =>
      obtain ⟨c1, c2, c3, c4, c5, c6⟩ := closeF b' bs rfl
      have hvr : b'.2.1.length = 100 := by rw [hbr.1.1]; exact hb
      rcases hx with ⟨tb, hx⟩ | ⟨hx, rfl⟩
      · exact rg_close_blank (x := .blank _ _) B F' X T c1 hun hdp hlen c2 hvt hq1 c3 c4 hx (List.getElem?_eq_some_iff.mp hx).1 (mk hx (show (⟨#[66]⟩ : Str) = Str.ofString "B" by decide)) c5 c6 (by omega) (fun D h' tk' m' tt hv F2 N2 => Qret _ D h' tk' m' tt _ F2 N2 rfl (.head _)) (fun h' tk' m' t' n2 F2 e1 e2 e3 e4 N2 _ hv' => absurd hvr (by omega))
      · exact rg_close_eof B F' X T c1 hun hdp hlen c2 hvt hq1 c3 c4 hx (mk0 hx) c5 c6 (by omega) (fun D h' tk' m' tt _ hv F2 N2 => Qret _ D h' tk' m' tt _ F2 N2 rfl (.head _)) (fun h' tk' m' t' n2 _ F2 e1 e2 e3 e4 N2 _ hv' => absurd hvr (by omega))
end Mine
end

-- RgC10
section
theorem Mine.offRgC10 : True := by
  w_top off
  trivial
open PySem PySem.W PyProof.Rows PySem.Calls
set_option linter.unusedVariables false
namespace Mine
open Mine10
set_option maxRecDepth 100000 in
set_option maxHeartbeats 1000000 in
theorem rg_init {w : World} {mean : ExcName → Option Value} {mg mb : Str → Option Value} {dp un : Nat} {gd : Option (List Code)} {outer : List Env} {A₀ : Around} {base h₀ : Heap} {L : Addr} {m : Str → Option Value} {s : Shared} {Q : Flow → Shared → Prop} {E : Value → Shared → Prop} {it : Addr} {io : Obj}
    (B : Below A₀ base outer h₀) (F : Fr h₀ L s.heap m) (X : (hd10.heap_39 w.params).In h₀) (T : Top topProg loose10 mean mg mb h₀) (N : News h₀ L s.heap [(it, io)])
    (fin : ∀ sk top h' tk', Fr h₀ L h' (fun y => if y = Str.ofString "stack" then some (.ref sk) else m y) → News h₀ L h' ((sk, W.listOf #[Value.ref top] 0) :: (top, W.listOf #[] 0) :: (it, io) :: []) → (@LT.lt Nat _ it top ∧ @LT.lt Nat _ top sk) → Q .next { s with heap := h', toks := tk' }) :
    wpAny (model prog10 w) (rgA dp un gd L outer) (exec (nthS rgB 0) (rgE L)) Q E s := by
  have hfill : PySem.Challenge.rw_dm0148_10.about = PySem.Challenge.rw_dm0148_10.about ∧ hd10.heap_39 = hd10.heap_39 := by k_fill; exact ⟨rfl, rfl⟩
  clear hfill
  conv in (exec _ _) => arg 1; whnf
  w_strict (k_steps)
  exact fin _ _ _ _ (by assumption) (by assumption) (by omega)
theorem rgWhile_eq : rgWhile = .While (testS rgWhile) rgT [] (posS rgWhile) := by with_unfolding_all rfl
theorem rgB_eq : rgB = [nthS rgB 0, rgWhile] := by with_unfolding_all rfl
set_option maxRecDepth 100000 in
theorem rg_test {w : World} {A : Around} {L : Addr} {s : Shared} {Q : Bool → Shared → Prop} {E : Value → Shared → Prop} (h : Q true s) : wpAny (model prog10 w) A (isTrue (testS rgWhile) (rgE L) (eval (testS rgWhile) (rgE L))) Q E s := by
  have hT : testS rgWhile = testS rgWhile := rfl
  conv at hT => rhs; whnf
  rw [hT]
  w_strict (k_steps)
  exact h
theorem rg_while {w : World} {mean : ExcName → Option Value} {mg mb : Str → Option Value} {dp un : Nat} {gd : Option (List Code)} {outer : List Env} {A₀ : Around} {base g : Heap} {L it sk top : Addr} {s₁ : Shared} {Q : Flow → Shared → Prop} {E : Value → Shared → Prop} {items : List It} {mt t : Tok} {ni i : Nat} {o : Out} {m : Str → Option Value}
    (B : Below A₀ base outer g) (X : (hd10.heap_39 w.params).In g) (T : Top topProg loose10 mean mg mb g) (hlen : items.length ≤ 1000) (h2 : 1 < items.length) (hdp : dp + 5 < recursionLimit) (hun : un + 100 < cLine) (hop : opens items i ≤ 100) (S : SM items i [] [] o)
    (F : Fr g L s₁.heap m) (m1 : m (Str.ofString "at") = some (.int (i : Int) t)) (m2 : m (Str.ofString "stack") = some (.ref sk)) (m3 : m (Str.ofString "items") = some (.ref it)) (m4 : m (Str.ofString "marks") = some (.str (marksOf items) mt))
    (N : News g L s₁.heap ((sk, W.listOf #[Value.ref top] 0) :: (top, W.listOf #[] 0) :: (it, W.listOf (items.map It.val).toArray ni) :: [])) (hlt : @LT.lt Nat _ it top ∧ @LT.lt Nat _ top sk) (hE : PassesOwn (model prog10 w) (rgA dp un gd L outer) (rgE L) E)
    (Qret : ∀ V D h tk m' tt own', Fr g L h m' → News g L h ((D, ({ cls := .type "tuple", data := .seq #[V, .int (o.pos : Int) tt] } : Obj)) :: own') → RV o V own' → (it, W.listOf (items.map It.val).toArray ni) ∈ own' → Q (.ret (.ref D)) { s₁ with heap := h, toks := tk }) :
    wpAny (model prog10 w) (rgA dp un gd L outer) (exec rgWhile (rgE L)) Q E s₁ := by
  rw [rgWhile_eq]
  refine While_own (RgI items it sk mt ni g L o s₁) (n₀ := 2 * (items.length + 1 - i) + 0) ⟨s₁.heap, s₁.toks, m, i, t, top, [], 0, 0, [], [], [], [], rfl, rfl, S, F, m1, m2, m3, m4, N, ⟨rfl, fun j v t h => by simp at h⟩, by simp, trivial, ⟨?_, ?_, (fun b hb => nomatch hb), (fun p hp => nomatch hp), trivial⟩, (fun p hp => nomatch hp), ?_, by simp; omega⟩ (fun n s' I => rg_test ?_) hE
  · exact Nat.ne_of_gt hlt.2
  · exact Nat.ne_of_gt hlt.1
  · exact Nat.ne_of_gt (Nat.lt_trans hlt.1 hlt.2)
  rw [if_pos rfl]
  exact rg_turn B X T hlen h2 hdp hun Qret n s' I
set_option maxRecDepth 100000 in
set_option maxHeartbeats 3000000 in
theorem reading_call {w : World} {mean : ExcName → Option Value} {mg mb : Str → Option Value} {dp un : Nat} {gd : Option (List Code)} {cn : Str} {cs : Scope} {a : Addr} {ccd : Value} {cl : List (Str × Addr)} {outer : List Env} {A₀ : Around} {base h₀ : Heap} {L it : Addr} {m : Str → Option Value} {s : Shared} {Q E : Value → Shared → Prop} {items : List It} {mt t : Tok} {ni i : Nat} {o : Out}
    (B : Below A₀ base outer h₀) (F : Fr h₀ L s.heap m) (X : (hd10.heap_39 w.params).In h₀) (T : Top topProg loose10 mean mg mb h₀) (hk : cs.kind = .function) (N : News h₀ L s.heap [(it, W.listOf (items.map It.val).toArray ni)]) (hlen : items.length ≤ 1000) (h2 : 1 < items.length) (hdp : dp + 9 < recursionLimit) (hun : un + 200 < cLine) (hop : opens items i ≤ 100) (S : SM items i [] [] o)
    (fin : ∀ V D h' tk' tt own', Fr h₀ L h' m → (∀ b o, s.heap.get? b = some o → h'.get? b = some o) → News h₀ L h' ((D, ({ cls := .type "tuple", data := .seq #[V, .int (o.pos : Int) tt] } : Obj)) :: own') → (∀ p ∈ (D, ({ cls := .type "tuple", data := .seq #[V, .int (o.pos : Int) tt] } : Obj)) :: own', s.heap.get? p.1 = none ∨ p.1 = it) → RV o V own' → Q (.ref D) { s with heap := h', toks := tk' }) :
    wpAny (model prog10 w) (ktrTop dp un gd cn cs L a ccd cl outer) (call (.ref 146) [.ref it, .str (marksOf items) mt, .int (i : Int) t]) Q E s := by
  have hfill : PySem.Challenge.rw_dm0148_10.about = PySem.Challenge.rw_dm0148_10.about ∧ hd10.heap_39 = hd10.heap_39 := by k_fill; exact ⟨rfl, rfl⟩
  clear hfill
  refine wpAny_call ?_
  k_dflt (refine' code_keep (A := ktrTop dp un gd cn cs L a ccd cl outer) B F X N T rfl rfl hk ?k6 ?k7 ?k8 ?k9 ?kB ?_ ?c2 ?c3 ?c4 ?c5; (case k6 => k_is); (case k7 => k_is); (case k8 => (show dp < recursionLimit; omega)); (case k9 => exact BindsTo.of_eq rfl); (case kB => exact locs rfl); (case c2 => exact rfl); (case c3 => exact rfl); (case c4 => exact rfl); (case c5 => decide); k_whole)
  intro g' L' h' gk' FG' F' N' B' X' T' l1
  show wpAny (model prog10 w) (rgA (dp + 1) (un + 3) gd L' (envX cn cs L a ccd cl :: outer)) (execs rgB (rgE L')) _ _ _
  rw [rgB_eq]
  refine wpAny_execs_cons (rg_init B' F' X' T' N' fun sk top h1 tk1 F1 N1 hlt => ?_)
  dsimp only
  refine wpAny_execs_cons (rg_while (dp := dp + 1) (un := un + 3) (gd := gd) (mt := mt) (t := t) (o := o) B' X' T' hlen h2 (by omega) (by omega) hop S F1 ((if_neg (by decide)).trans (by rfl)) (if_pos rfl) ((if_neg (by decide)).trans (by rfl)) ((if_neg (by decide)).trans (by rfl)) N1 hlt PassesOwn.leaving ?_)
  intro V D h2 tk2 m2 tt own' F2 N2 rv hio
  dsimp only
  have hsame : ∀ b ob, s.heap.get? b = some ob → b ≠ it → g'.get? b = some ob := fun b ob hb hne => gk' b ob hb fun hm => by
    simp only [List.map_cons, List.map_nil, List.mem_singleton] at hm
    exact hne hm
  refine leaveK_ F2 N2 fun kF kN => fin V D h2 _ tt own' kF (fun b ob hb => ?_) kN (fun p hp => ?_) rv
  · by_cases c : b = it
    · subst c
      have z := (N _ (.head _)).1
      rw [hb] at z
      cases z
      exact (N2 _ (.tail _ hio)).1
    · exact F2.keep _ _ (hsame b ob hb c)
  · by_cases c : p.1 = it
    · exact .inr c
    · cases q : s.heap.get? p.1 with
      | none => exact .inl rfl
      | some ob =>
        have z := hsame _ _ q c
        rw [(N2 p hp).2.2] at z
        cases z
end Mine
end

-- Reader10
section
theorem Mine.offReader10 : True := by
  w_top off
  trivial
open PySem PySem.W PyProof.Rows PySem.Calls
set_option linter.unusedVariables false
namespace Mine
open Mine10
set_option maxRecDepth 100000 in
set_option maxHeartbeats 1000000 in
theorem hdr_stmt {w : World} {mean : ExcName → Option Value} {mg mb : Str → Option Value} {dp un : Nat} {gd : Option (List Code)} {outer : List Env} {A₀ : Around} {base h₀ : Heap} {L : Addr} {m : Str → Option Value} {s : Shared} {Q : Flow → Shared → Prop} {E : Value → Shared → Prop}
    {it pl src tt ds lf lc c1 c2 c3 c4 : Addr} {o1 o2 o3 o4 oc fo : Obj} {tkk : Tok} {items : List It} {ni np i : Nat} {t : Tok}
    (B : Below A₀ base outer h₀) (F : Fr h₀ L s.heap m) (X : (hd10.heap_39 w.params).In h₀) (T : Top topProg loose10 mean mg mb h₀) (N : News h₀ L s.heap (LD w.params it pl src tt ds lf lc c1 c2 c3 c4 o1 o2 o3 o4 oc fo tkk items ni i t np))
    (fin : ∀ hd h' tk', Fr h₀ L h' (fun y => if y = Str.ofString "headers" then some (.ref hd) else m y) → News h₀ L h' ((hd, W.listOf #[] 0) :: LD w.params it pl src tt ds lf lc c1 c2 c3 c4 o1 o2 o3 o4 oc fo tkk items ni i t np) → (∀ p ∈ LD w.params it pl src tt ds lf lc c1 c2 c3 c4 o1 o2 o3 o4 oc fo tkk items ni i t np, @LT.lt Nat _ p.1 hd) → Q .next { s with heap := h', toks := tk' }) :
    wpAny (model prog10 w) (rdA dp un gd L outer) (exec (nthS readB 0) (readE L)) Q E s := by
  have hfill : PySem.Challenge.rw_dm0148_10.about = PySem.Challenge.rw_dm0148_10.about ∧ hd10.heap_39 = hd10.heap_39 := by k_fill; exact ⟨rfl, rfl⟩
  clear hfill
  conv in (exec _ _) => arg 1; whnf
  w_strict (k_steps)
  (rename News h₀ L _ _ => kN)
  (rename _ ∧ _ ∧ _ ∧ _ ∧ _ => kl)
  refine fin _ _ _ (by assumption) kN ?_
  intro p hp
  simp only [List.mem_cons, List.not_mem_nil, or_false] at hp
  rcases hp with rfl | rfl | rfl | rfl | rfl | rfl | rfl | rfl | rfl | rfl | rfl <;> (dsimp only; omega)
set_option maxRecDepth 100000 in
theorem ret_hdr {w : World} {dp un : Nat} {gd : Option (List Code)} {outer : List Env} {h₀ : Heap} {L hd : Addr} {m : Str → Option Value} {s : Shared} {Q : Flow → Shared → Prop} {E : Value → Shared → Prop} (F : Fr h₀ L s.heap m) (hm : m (Str.ofString "headers") = some (.ref hd)) (h : Q (.ret (.ref hd)) s) :
    wpAny (model prog10 w) (rdA dp un gd L outer) (exec (nthS readB 2) (readE L)) Q E s := by
  have e : ∃ p1 p2, nthS readB 2 = .Return (some (.Name (Str.ofString "headers") p1)) p2 := ⟨_, _, by with_unfolding_all rfl⟩
  obtain ⟨p1, p2, e⟩ := e
  rw [e]
  have hl : (readE L).kindOf (Str.ofString "headers") = some .local := by kernel_rfl
  exact wpAny_Return_some (wpAny_Name (wpAny_loadName_local read_kind hl F.ns hm h))
theorem readB_eq : readB = [nthS readB 0, readWhile, nthS readB 2] := by with_unfolding_all rfl
end Mine
end

-- ReadOk10
section
theorem Mine.offReadOk10 : True := by
  w_top off
  trivial
open PySem PySem.W PyProof.Rows PySem.Calls
set_option linter.unusedVariables false
namespace Mine
open Mine10
theorem made_fr {h h' : Heap} {h₀ : Heap} {L : Addr} {m : Str → Option Value} (F : Fr h₀ L h m) (k : ∀ b o, h.get? b = some o → h'.get? b = some o) : Fr h₀ L h' m := by
  obtain ⟨oL, es, ep, hL, r⟩ := F.ns
  exact ⟨⟨oL, es, ep, k _ _ hL, r⟩, fun b o q => k _ _ (F.keep _ _ q), F.above⟩
theorem read_while {w : World} {mean : ExcName → Option Value} {mg mb : Str → Option Value} {dp un : Nat} {gd : Option (List Code)} {outer : List Env} {A₀ : Around} {base g hc : Heap} {L hd : Addr} {s₁ : Shared} {Q : Flow → Shared → Prop} {E : Value → Shared → Prop} {S : SP} {i₀ : Nat} {o : Out} {t₀ : Tok} {np₀ : Nat} {m : Str → Option Value}
    (B : Below A₀ base outer g) (X : (hd10.heap_39 w.params).In g) (T : Top topProg loose10 mean mg mb g) (C : CodeHd base 138 134) (K : S.Ok w.params)
    (IH : ∀ i' o', i₀ < i' → i' ≤ S.items.length → RD S.items i' [] o' → ReadC w S i' o') (hq : AllNq hd (S.led w.params i₀ t₀ np₀)) (hhd : hd ≠ S.pl) (hkc : ∀ b o, hc.get? b = some o → b ≠ S.pl → g.get? b = some o ∨ (∃ o', (b, o') ∈ S.led w.params i₀ t₀ np₀))
    (hdp : dp + 2 * opens S.items i₀ + 7 < recursionLimit) (hun : un + 8 * opens S.items i₀ + 196 < cLine)
    (FR : ∀ h m i t np vs nh own, Fr g L h m → News g L h ((hd, W.listOf (List.toArray vs) nh) :: S.ledo w.params i t np own) → i₀ ≤ i → Fresh S w.params h i)
    (R : RD S.items i₀ [] o) (F : Fr g L s₁.heap m) (hmh : m (Str.ofString "headers") = some (.ref hd)) (hmf : m (Str.ofString "fp") = some (.ref S.src)) (N : News g L s₁.heap ((hd, W.listOf (List.toArray ([] : List Value)) 0) :: S.ledo w.params i₀ t₀ np₀ [])) (hE : PassesOwn (model prog10 w) (rdA dp un gd L outer) (readE L) E)
    (Qok : ∀ l a', o = .ok l a' → ∀ h tk m' t' np' vs nh own, Fr g L h m' → m' (Str.ofString "headers") = some (.ref hd) → News g L h ((hd, W.listOf (List.toArray vs) nh) :: S.ledo w.params a' t' np' own) → vs.length = l.length → (∀ (j : Nat) v t, vs[j]? = some v → l[j]? = some t → Rests own (fun a => hc.get? a = none) (opens S.items i₀) v t) → (∀ p ∈ own, hc.get? p.1 = none) → Q .next { s₁ with heap := h, toks := tk })
    (EA : ExA S w.params g L hd outer i₀ o s₁ E) (EB : ExB S w.params g L hd o s₁ E) :
    wpAny (model prog10 w) (rdA dp un gd L outer) (exec readWhile (readE L)) Q E s₁ := by
  rw [readWhile_eq]
  refine While_own (LoopI S w.params g L hd hc i₀ o s₁) (n₀ := S.items.length + 2 - i₀) ⟨s₁.heap, s₁.toks, m, i₀, [], t₀, np₀, [], 0, [], rfl, rfl, Nat.le_refl _, R, by simp, F, hmh, hmf, N, (fun p hp => nomatch hp), (fun p hp => nomatch hp), (fun p hp => nomatch hp), rfl, fun j v t h => by simp at h⟩ (fun n s' I => read_test ?_) hE
  rw [if_pos rfl]
  exact loop_turn (t₀ := t₀) (np₀ := np₀) B X T C K IH hq hhd hkc hdp hun FR Qok EA EB n s' I
set_option maxRecDepth 100000 in
set_option maxHeartbeats 3000000 in
theorem read_step {w : World} {S : SP} (K : S.Ok w.params) {i : Nat} {o : Out} (R : RD S.items i [] o) (IH : ∀ i' o', i < i' → i' ≤ S.items.length → RD S.items i' [] o' → ReadC w S i' o') : ReadC w S i o := by
  intro mean mg mb dp un gd cn cs a ccd cl outer A₀ base h₀ L m s Q E t np B F X T hk C N hdp hun fr fin finx
  have hfill : PySem.Challenge.rw_dm0148_10.about = PySem.Challenge.rw_dm0148_10.about ∧ hd10.heap_39 = hd10.heap_39 := by k_fill; exact ⟨rfl, rfl⟩
  clear hfill
  refine wpAny_call ?_
  k_dflt (refine' code_keep (A := ktrTop dp un gd cn cs L a ccd cl outer) B F X N T rfl rfl hk ?k6 ?k7 ?k8 ?k9 ?kB ?_ ?c2 ?c3 ?c4 ?c5; (case k6 => k_is); (case k7 => k_is); (case k8 => (show dp < recursionLimit; omega)); (case k9 => exact BindsTo.of_eq rfl); (case kB => exact locs rfl); (case c2 => exact rfl); (case c3 => exact rfl); (case c4 => exact rfl); (case c5 => decide); k_whole)
  intro g' L' h' gk' FG' F' N' B' X' T' l1
  have hsub : ∀ p ∈ S.led w.params i t np, p.1 = S.pl ∨ p ∈ (S.it, W.listOf (S.items.map It.val).toArray S.ni) :: statL w.params S.src S.tt S.ds S.lf S.lc S.c1 S.c2 S.c3 S.c4 S.o1 S.o2 S.o3 S.o4 S.oc S.fo S.tkk := fun p hp => by
    rcases List.mem_cons.mp hp with rfl | hp
    · exact .inl rfl
    · exact .inr hp
  have hpl : ∃ j t np, s.heap.get? S.pl = some (W.listOf #[.int j t] np) := ⟨_, _, _, (N _ (.head _)).1⟩
  have ledOf : ∀ {h i t np own oh hd}, News g' L' h ((hd, oh) :: S.ledo w.params i t np own) → News g' L' h (S.led w.params i t np) := fun N p hp => N p (.tail _ (by rw [ledo_app]; exact List.mem_append_left _ hp))
  have kbOf : ∀ {h m' i t np own oh hd}, Fr g' L' h m' → News g' L' h ((hd, oh) :: S.ledo w.params i t np own) → KeepBut S.pl s.heap h := fun F N2 => keep_but gk' F N (ledOf N2) hsub
  have bL : ∀ b o, s.heap.get? b = some o → b ≠ L' := fun b o hb => by
    by_cases hm' : b ∈ (S.led w.params i t np).map (·.1)
    · obtain ⟨p, hp, rfl⟩ := List.mem_map.mp hm'
      exact Nat.ne_of_lt (l1 p hp)
    · exact Nat.ne_of_lt (Nat.lt_of_lt_of_le (Heap.lt_size (gk' b o hb hm')) F'.above)
  show wpAny (model prog10 w) (rdA (dp + 1) (un + 3) gd L' (envX cn cs L a ccd cl :: outer)) (execs readB (readE L')) _ _ _
  rw [readB_eq]
  refine wpAny_execs_cons (hdr_stmt B' F' X' T' N' fun hd h1 tk1 F1 N1 lt => ?_)
  dsimp only
  have N1' : News g' L' h1 ((hd, W.listOf (List.toArray ([] : List Value)) 0) :: S.ledo w.params i t np []) := N1
  have hhd : hd ≠ S.pl := fun e => by have := lt _ (.head _); rw [e] at this; exact Nat.lt_irrefl _ this
  have hq : AllNq hd (S.led w.params i t np) := allNq_of fun p hp => Nat.ne_of_lt (lt p hp)
  have hnew : s.heap.get? hd = none := by
    cases q : s.heap.get? hd with
    | none => rfl
    | some ob =>
      have z := gk' hd ob q fun hm' => by
        obtain ⟨p, hp, e⟩ := List.mem_map.mp hm'
        have := lt p hp
        rw [e] at this
        exact Nat.lt_irrefl _ this
      rw [(N1 _ (.head _)).2.2] at z
      cases z
  refine wpAny_execs_cons (read_while (dp := dp + 1) (un := un + 3) (gd := gd) (hc := s.heap) (o := o) (t₀ := t) (np₀ := np) B' X' T' C K IH hq hhd (fun b ob hb hne => ?kc) (by omega) (by omega) (fun h m' i2 t2 np2 vs nh own F2 N2 hi2 => fresh_keeps fr (kbOf F2 N2) hpl hi2) R F1 (if_pos rfl) ((if_neg (by decide)).trans (by rfl)) N1' PassesOwn.leaving ?ok ?ea ?eb)
  case kc =>
    by_cases hm' : b ∈ (S.led w.params i t np).map (·.1)
    · obtain ⟨p, hp, rfl⟩ := List.mem_map.mp hm'
      exact .inr ⟨p.2, hp⟩
    · exact .inl (gk' b ob hb hm')
  case ok =>
      intro l a' eo h2 tk2 m2 t2 np2 vs nh own F2 hm2 N2 hl hr hfr
      dsimp only
      refine wpAny_execs_cons (ret_hdr F2 hm2 ?_)
      dsimp only
      refine leaveK_ F2 (ledOf N2) fun kF kN => fin l a' eo hd h2 t2 np2 _ kF kN (kbOf F2 N2) (.node hnew (N2 _ (.head _)).1 hl fun j v tr e1 e2 => hr j v tr e1 e2 h2 fun p hp => (N2 p (.tail _ (by rw [ledo_app]; exact List.mem_append_right _ hp))).1)
  case ea =>
      intro e cls a0 h2 m2 h3 tk3 i2 t2 np2 vs nh own F2 N2 hi2 EO EP
      refine pass_frame (h := s.heap) (h₀ := h₀) (L := L) (m := m) rfl rfl EP FG' (kbOf F2 N2) bL fun h4 EP4 up4 => finx e cls a0 h4 _ (EO.slots (kbOf F2 N2) (fun e' a' eo => ?_) (fun z => ?_) up4) EP4
      · obtain ⟨j, hj, hje⟩ := rd_err R e' a' eo
        obtain ⟨oe, _, _, ho, _⟩ := fr j e' hj hje
        exact ⟨oe, ho, fresh_ne fr hpl hj hje⟩
      · rw [(ledOf N2 _ (.head _)).1] at z
        cases z
  case eb =>
      intro e u h2 m2 h3 tk3 t2 np2 vs nh own F2 N2 hM eo
      obtain ⟨tx, he, htn, ht⟩ := hM.there
      have F3 := made_fr F2 hM.keeps
      have N3 : News g' L' h3 (S.led w.params o.pos t2 np2) := fun p hp => ⟨hM.keeps _ _ (ledOf N2 p hp).1, (ledOf N2 p hp).2⟩
      have hen : s.heap.get? e = none := by
        cases q : s.heap.get? e with
        | none => rfl
        | some ob =>
          by_cases c : e = S.pl
          · have z := (ledOf N2 _ (.head _)).1
            rw [← c, hM.new] at z
            cases z
          · have z := kbOf F2 N2 e ob q c
            rw [hM.new] at z
            cases z
      have hne : e ≠ S.pl := fun c => by
        have z := (ledOf N2 _ (.head _)).1
        rw [← c, hM.new] at z
        cases z
      refine fly_first (L := L') rfl rfl (pushX B' F3 rfl read_kind).frames he rfl rfl rfl fun Bh h4 fl hk up => ?_
      refine finx e (.ref 31) (.ref tx) h4 _ ?_ (exc_out B rfl rfl gk' FG' F3 N N3 hsub ⟨_, .head _⟩ l1 hne fl hk up)
      rw [eo]
      exact ⟨hen, rfl, tx, u, rfl, Heap.TupAt.of_slots ⟨_, _, ht, rfl, rfl⟩ up⟩
theorem read_ok {w : World} {S : SP} (K : S.Ok w.params) : ∀ (n i : Nat) (o : Out), S.items.length + 1 ≤ i + n → RD S.items i [] o → ReadC w S i o
  | 0, i, o, h, R => read_step K R fun i' o' h1 h2 _ => by omega
  | n + 1, i, o, h, R => read_step K R fun i' o' h1 h2 R' => read_ok K n i' o' (by omega) R'
end Mine
end

-- LawD10
section
theorem Mine.offLawD10 : True := by
  w_top off
  trivial
open PySem PySem.W PyProof.Rows PySem.Calls
set_option linter.unusedVariables false
namespace Mine
open Mine10
abbrev lawA (dp un : Nat) (gd : Option (List Code)) (L a : Addr) (ccd : Value) : Around := ktrTop dp un gd (Str.ofString "law") lawScope L a ccd [] []
theorem lawA_eq {L a : Addr} {ccd : Value} : ∃ dp un gd, callerA.deeper (lawE L a ccd) = lawA dp un gd L a ccd ∧ dp + 300 < recursionLimit ∧ un + 2000 < cLine := ⟨_, _, _, rfl, by decide, by decide⟩
theorem law_kind : lawScope.kind = .function := by kernel_rfl
def lawWhile : Stmt := nthS lawB 5
def lwB : List Stmt := suite lawWhile
end Mine
end

-- SrcN10
section
theorem Mine.offSrcN10 : True := by
  w_top off
  trivial
open PySem PySem.W PyProof.Rows PySem.Calls
set_option linter.unusedVariables false
namespace Mine
open Mine10
local macro_rules | `(tactic| walk_at "call ref") => `(tactic| (k_here; (with_reducible show wpAny _ _ (call (Value.ref 31) _) _ _ _); k_dflt (refine' exc_make0 (C := 31) PySem.F.excBase_Exception ?k1 ?k2 ?k3 ?k4 ?k5 ?k6 ?k7 ?k8 ?_; (case k1 => k_asm); (case k2 => k_asm); (case k3 => k_asm); (case k5 => exact rfl); (case k4 => exact tail_of_in (by k_asm) (tailB _)); (case k6 => exact ns30 _); (case k7 => exact init30 _); (case k8 => exact (by decide : 0 ≤ sizeLine)); k_whole; intro x' tx' h' F' N' ne' n3'; (have n1' : AllNq x' _ := allNq_of fun p hp => (ne' p hp).1); (have n2' : AllNq tx' _ := allNq_of fun p hp => (ne' p hp).2); clear ne'; (simp only [AllNq, and_true] at n1' n2'))))
local macro_rules | `(tactic| walk_at "setAttr ref") => `(tactic| (k_here; k_dflt (refine' exc_first1 ?k1 ?k2 ?k3 ?k5 ?k6 ?k7 ?_; (case k1 => k_asm); (case k2 => k_asm); (case k3 => k_asm); (case k7 => (intro dx'; k_upd)); (case k5 => first | exact set31 _); (case k6 => first | exact takerRl _); k_whole; intro d' h' F' N' l1; (try k_lt l1))))
theorem src_nq {L' x tx c f d it pl : Addr} {od ofn oc ox ot o4 o3 o2 o1 : Obj} (l1 : 134 < L' ∧ pl < L' ∧ it < L')
    (n1 : L' + 1 + 1 + 1 + 1 ≠ x ∧ L' + 1 + 1 + 1 ≠ x ∧ L' + 1 + 1 ≠ x ∧ L' + 1 ≠ x ∧ 134 ≠ x ∧ pl ≠ x ∧ it ≠ x)
    (n2 : L' + 1 + 1 + 1 + 1 ≠ tx ∧ L' + 1 + 1 + 1 ≠ tx ∧ L' + 1 + 1 ≠ tx ∧ L' + 1 ≠ tx ∧ 134 ≠ tx ∧ pl ≠ tx ∧ it ≠ tx)
    (m1 : x < c ∧ tx < c ∧ L' + 1 + 1 + 1 + 1 < c ∧ L' + 1 + 1 + 1 < c ∧ L' + 1 + 1 < c ∧ L' + 1 < c ∧ 134 < c ∧ pl < c ∧ it < c) (m2 : c < f)
    (m3 : f < d ∧ c < d ∧ x < d ∧ tx < d ∧ L' + 1 + 1 + 1 + 1 < d ∧ L' + 1 + 1 + 1 < d ∧ L' + 1 + 1 < d ∧ L' + 1 < d ∧ 134 < d ∧ pl < d ∧ it < d) :
    AllNq 134 [(d, od), (f, ofn), (c, oc), (x, ox), (tx, ot), (L' + 1 + 1 + 1 + 1, o4), (L' + 1 + 1 + 1, o3), (L' + 1 + 1, o2), (L' + 1, o1)] ∧
    AllNq pl [(d, od), (f, ofn), (c, oc), (x, ox), (tx, ot), (L' + 1 + 1 + 1 + 1, o4), (L' + 1 + 1 + 1, o3), (L' + 1 + 1, o2), (L' + 1, o1)] ∧
    AllNq it [(d, od), (f, ofn), (c, oc), (x, ox), (tx, ot), (L' + 1 + 1 + 1 + 1, o4), (L' + 1 + 1 + 1, o3), (L' + 1 + 1, o2), (L' + 1, o1)] := by
  have key : ∀ y : Nat, y < L' → y ≠ x → y ≠ tx → y < c → y < d → AllNq y [(d, od), (f, ofn), (c, oc), (x, ox), (tx, ot), (L' + 1 + 1 + 1 + 1, o4), (L' + 1 + 1 + 1, o3), (L' + 1 + 1, o2), (L' + 1, o1)] := fun y h1 h2 h3 h4 h5 =>
    ⟨Nat.ne_of_gt h5, Nat.ne_of_gt (Nat.lt_trans h4 m2), Nat.ne_of_gt h4, Ne.symm h2, Ne.symm h3, Nat.ne_of_gt (Nat.lt_add_right 1 (Nat.lt_add_right 1 (Nat.lt_add_right 1 (Nat.lt_add_right 1 h1)))), Nat.ne_of_gt (Nat.lt_add_right 1 (Nat.lt_add_right 1 (Nat.lt_add_right 1 h1))), Nat.ne_of_gt (Nat.lt_add_right 1 (Nat.lt_add_right 1 h1)), Nat.ne_of_gt (Nat.lt_add_right 1 h1), trivial⟩
  exact ⟨key _ l1.1 n1.2.2.2.2.1 n2.2.2.2.2.1 m1.2.2.2.2.2.2.1 m3.2.2.2.2.2.2.2.2.1, key _ l1.2.1 n1.2.2.2.2.2.1 n2.2.2.2.2.2.1 m1.2.2.2.2.2.2.2.1 m3.2.2.2.2.2.2.2.2.2.1, key _ l1.2.2 n1.2.2.2.2.2.2 n2.2.2.2.2.2.2 m1.2.2.2.2.2.2.2.2 m3.2.2.2.2.2.2.2.2.2.2⟩
set_option maxRecDepth 100000 in
set_option maxHeartbeats 3000000 in
theorem src_call2 {w : World} {mean : ExcName → Option Value} {mg mb : Str → Option Value} {a : Addr} {ccd : Value} {base h₀ : Heap} {L : Addr} {m : Str → Option Value} {s : Shared} {Q : Value → Shared → Prop} {E : Value → Shared → Prop} {it pl : Addr} {mk : Str} {t : Tok} {vs : List Value} {n : Nat} {p0 : Tok}
    (B : Below callerA base [] h₀) (F : Fr h₀ L s.heap m) (X : (hd10.heap_39 w.params).In h₀) (N : News h₀ L s.heap ((134, tabObj #[]) :: (pl, W.listOf #[.int 0 p0] 0) :: (it, W.listOf vs.toArray n) :: [])) (T : Top topProg loose10 mean mg mb h₀) {h9 : Heap} (hT9 : TabsAt [(138, 134)] h9) (C : CodeHd base 138 134) (hlt : @Ne Nat 134 it ∧ @LT.lt Nat _ it pl ∧ @LT.lt Nat _ 134 pl)
    (fin : ∀ src tt ds lf lc c1 c2 c3 c4 o1 o2 o3 o4 oc fo tk tab h' tk', o1.data = .cell (some (.ref it)) → o2.data = .cell (some (.str mk t)) → o3.data = .cell (some (.ref pl)) → o4.data = .cell (some (.ref src)) → (∃ q, LineFn fo oc lc c1 c2 c3 c4 q) →
      Fr h₀ L h' m → News h₀ L h' (statL w.params src tt ds lf lc c1 c2 c3 c4 o1 o2 o3 o4 oc fo tk ++ [(134, tabObj tab), (pl, W.listOf #[.int 0 p0] 0), (it, W.listOf vs.toArray n)]) → AllNq pl (statL w.params src tt ds lf lc c1 c2 c3 c4 o1 o2 o3 o4 oc fo tk) → (∀ p ∈ statL w.params src tt ds lf lc c1 c2 c3 c4 o1 o2 o3 o4 oc fo tk, s.heap.get? p.1 = none) →
      (∀ b o, s.heap.get? b = some o → b ≠ 134 → h'.get? b = some o) → Q (.ref src) { s with heap := h', toks := tk' }) :
    wpAny (model prog10 w) (callerA.deeper (lawE L a ccd)) (call (.ref 139) [.ref it, .str mk t, .ref pl]) Q E s := by
  have hfill : PySem.Challenge.rw_dm0148_10.about = PySem.Challenge.rw_dm0148_10.about ∧ hd10.heap_39 = hd10.heap_39 := by k_fill; exact ⟨rfl, rfl⟩
  clear hfill
  refine wpAny_call ?_
  k_dflt (refine' code_keepC ?k1 ?k2 ?k3 ?k4 ?k5 ?kA ?kF ?kK ?k6 ?k7 ?k8 ?k9 ?kB ?kD ?_ ?c2 ?c3 ?c4; (case kA => exact rfl); (case kF => exact rfl); (case kK => exact rfl); (case k1 => k_asm); (case k2 => k_asm); (case k3 => k_asm); (case k4 => k_asm); (case k5 => k_asm); (case k6 => k_is); (case k7 => k_is); (case k8 => k_room); (case k9 => exact BindsTo.of_eq rfl); (case kB => exact rfl); (case kD => decide +kernel); (case c2 => exact rfl); (case c3 => exact rfl); (case c4 => exact rfl); k_whole)
  intro g' L' h' tk' cells' gk' FG' F' N' Y' B' X' T' l1
  k_lt l1
  have hY := CellsAre.four Y'
  obtain ⟨o', o2', o3', o4', hE', d1', d2', d3', d4'⟩ := hY
  subst hE'
  clear Y'
  replace d2' : o2'.data = .cell (some (.ref pl)) := d2'
  replace d3' : o3'.data = .cell (some (.str mk t)) := d3'
  replace d4' : o4'.data = .cell (some (.ref it)) := d4'
  (try simp only [List.cons_append, List.nil_append] at N')
  (try dsimp only)
  (try k_lift B')
  (try k_fold)
  w_strict (k_steps)
  (rename News h₀ L _ _ => kN)
  (rename Fr h₀ L _ _ => kF)
  (rename Fr g' L' _ _ => kG)
  (rename News g' L' _ _ => kNg)
  refine fin _ _ _ _ _ _ _ _ _ _ _ _ _ _ _ _ _ _ _ d4' d3' d2' ?e4 ?e5 kF kN ?nq ?new ?keep
  case e4 => assumption
  case e5 => exact ⟨_, rfl, ⟨_, _, _, by with_unfolding_all rfl⟩, rfl, ⟨_, _, by assumption, by assumption⟩⟩
  case nq => exact (src_nq l1 (by assumption) (by assumption) (by assumption) (by assumption) (by assumption)).2.1
  case new =>
    intro p hp
    have z1 : g'.get? p.1 = none := (kNg p (List.mem_append_left _ hp)).2.2
    have ne : @Ne Nat p.1 134 ∧ @Ne Nat p.1 pl ∧ @Ne Nat p.1 it := ⟨allNq_out (src_nq l1 (by assumption) (by assumption) (by assumption) (by assumption) (by assumption)).1 p hp, allNq_out (src_nq l1 (by assumption) (by assumption) (by assumption) (by assumption) (by assumption)).2.1 p hp, allNq_out (src_nq l1 (by assumption) (by assumption) (by assumption) (by assumption) (by assumption)).2.2 p hp⟩
    cases q : s.heap.get? p.1 with
    | none => rfl
    | some o =>
      have z := gk' _ _ q (by
        simp only [List.map_cons, List.map_nil, List.mem_cons, List.not_mem_nil, or_false, not_or]
        exact ne)
      rw [z1] at z
      cases z
  case keep =>
    intro b o hb h134
    by_cases c1 : b = pl
    · subst c1
      have z := (N _ (.tail _ (.head _))).1
      rw [hb] at z
      cases z
      exact (kN (b, W.listOf #[.int 0 p0] 0) (by k_mem)).1
    · by_cases c2 : b = it
      · subst c2
        have z := (N _ (.tail _ (.tail _ (.head _)))).1
        rw [hb] at z
        cases z
        exact (kN (b, W.listOf vs.toArray n) (by k_mem)).1
      · refine kG.keep b o (gk' b o hb ?_)
        simp only [List.map_cons, List.map_nil, List.mem_cons, List.not_mem_nil, or_false, not_or]
        exact ⟨h134, c1, c2⟩
end Mine
end

-- Head10
section
theorem Mine.offHead10 : True := by
  w_top off
  trivial
open PySem PySem.W PyProof.Rows PySem.Calls
set_option linter.unusedVariables false
namespace Mine
open Mine10
theorem items_step {w : World} {mean : ExcName → Option Value} {mg mb : Str → Option Value} {a : Addr} {ccd : Value} {base h₀ : Heap} {L sa : Addr} {m : Str → Option Value} {s : Shared} {Q E : Value → Shared → Prop} {vs : List Value} {ns : List Int} {to : Obj}
    (B : Below callerA base [] h₀) (F : Fr h₀ L s.heap m) (X : (hd10.heap_39 w.params).In h₀) (T : Top topProg loose10 mean mg mb h₀) (C : CodeHd base 138 134) (N : News h₀ L s.heap [(134, to)])
    (hL : h₀.IsList sa vs.toArray) (hI : IntsAre vs ns) (hlen : ¬ (63 : Int) < ns.length)
    (fin : ∀ R it items tw mt ni h' tk', Fr h₀ L h' m → News h₀ L h' ((R, tupObj [.ref it, .str (marksOf items) mt]) :: (it, W.listOf (items.map It.val).toArray ni) :: (134, to) :: tw) → ItOk w.params items tw 63 → @Ne Nat 134 it → NeAll it tw → NeAll 134 tw → Q (.ref R) { s with heap := h', toks := tk' }) :
    wpAny (model prog10 w) (callerA.deeper (lawE L a ccd)) (call (.ref 132) [.ref sa]) Q E s := by
  obtain ⟨dp, un, gd, e, h1, h2⟩ := lawA_eq (L := L) (a := a) (ccd := ccd)
  rw [e]
  have hL' : s.heap.IsList sa vs.toArray := by
    obtain ⟨o, ho, r⟩ := hL
    exact ⟨o, F.keep _ _ ho, r⟩
  refine items_call (cn := Str.ofString "law") (cl := []) B F X T C law_kind (by omega) (by omega) hL' hI hlen fun R it items tw mt ni h' tk' kp F' O N' new hit => ?_
  have ne : ∀ p ∈ (R, tupObj [.ref it, .str (marksOf items) mt]) :: (it, W.listOf (items.map It.val).toArray ni) :: tw, p.1 ≠ 134 := fun p hp z => by
    have := new p hp
    rw [z, (N _ (.head _)).1] at this
    cases this
  refine fin R it items tw mt ni h' tk' F' (fun p hp => ?_) O (Ne.symm (ne _ (.tail _ (.head _)))) hit fun p hp => ne p (.tail _ (.tail _ hp))
  simp only [List.mem_cons] at hp
  rcases hp with h | h | h | h
  · exact N' p (by simp [h])
  · exact N' p (by simp [h])
  · subst h; exact ⟨kp _ _ (N _ (.head _)).1, (N _ (.head _)).2⟩
  · exact N' p (by simp [h])
theorem news_re4 {h₀ h : Heap} {L : Addr} {a b c d : Addr × Obj} {tw : List (Addr × Obj)} (N : News h₀ L h (a :: b :: c :: d :: tw)) : News h₀ L h (d :: a :: c :: tw) := fun p hp => N p (by
  simp only [List.mem_cons] at hp ⊢
  rcases hp with h | h | h | h
  · exact .inr (.inr (.inr (.inl h)))
  · exact .inl h
  · exact .inr (.inr (.inl h))
  · exact .inr (.inr (.inr (.inr h))))
abbrev mapH (m : Str → Option Value) (mk : Str) (mt : Tok) (it pl : Addr) : Str → Option Value := fun y => if y = Str.ofString "place" then some (.ref pl) else if y = Str.ofString "marks" then some (.str mk mt) else if y = Str.ofString "items" then some (.ref it) else m y
local macro_rules | `(tactic| k_all) => `(tactic| exact NeAll.out (by assumption))
local macro_rules | `(tactic| walk_at "call ref") => `(tactic| (k_here; k_dflt (refine items_step (s := ⟨_, _, _, _, _⟩) (by k_asm) (by k_asm) (by k_asm) (by k_asm) (by assumption) (by k_asm) (by assumption) (by assumption) (by assumption) ?_; k_whole); intro R' it' items' tw' mt' ni' h' tk' F' N' O' a1' a2' a3'))
set_option maxRecDepth 100000 in
set_option maxHeartbeats 1000000 in
theorem head0 {w : World} {mean : ExcName → Option Value} {mg mb : Str → Option Value} {a : Addr} {ccd : Value} {base h₀ : Heap} {L sa : Addr} {m : Str → Option Value} {s : Shared} {Q : Flow → Shared → Prop} {E : Value → Shared → Prop} {vs : List Value} {ns : List Int} {to : Obj}
    (B : Below callerA base [] h₀) (F : Fr h₀ L s.heap (fun y => if y = Str.ofString "script" then some (.ref sa) else m y)) (X : (hd10.heap_39 w.params).In h₀) (T : Top topProg loose10 mean mg mb h₀) (C : CodeHd base 138 134) (N : News h₀ L s.heap [(134, to)])
    (hL : h₀.IsList sa vs.toArray) (hI : IntsAre vs ns) (hlen : ¬ (63 : Int) < ns.length)
    (fin : ∀ it items tw mt ni pl p0 h' tk', Fr h₀ L h' (mapH (fun y => if y = Str.ofString "script" then some (.ref sa) else m y) (marksOf items) mt it pl) → News h₀ L h' ((134, to) :: (pl, W.listOf #[.int 0 p0] 0) :: (it, W.listOf (items.map It.val).toArray ni) :: tw) → ItOk w.params items tw 63 → @Ne Nat 134 it → @LT.lt Nat _ it pl → @LT.lt Nat _ 134 pl → NeAll it tw → NeAll 134 tw → NeAll pl tw → Q .next { s with heap := h', toks := tk' }) :
    wpAny (model prog10 w) (callerA.deeper (lawE L a ccd)) (execs [nthS lawB 0, nthS lawB 1] (lawE L a ccd)) Q E s := by
  have hfill : PySem.Challenge.rw_dm0148_10.about = PySem.Challenge.rw_dm0148_10.about ∧ hd10.heap_39 = hd10.heap_39 := by k_fill; exact ⟨rfl, rfl⟩
  clear hfill
  conv in (execs _ _) => arg 1; arg 1; whnf
  conv in (execs _ _) => arg 1; arg 2; arg 1; whnf
  w_strict (k_steps)
  rename Fr h₀ L _ _ => kF
  rename News h₀ L _ _ => kN
  rename _ ∧ _ => hlt
  exact fin _ _ _ _ _ _ _ _ _ kF (news_re4 kN) (by assumption) (by assumption) hlt.2.1 hlt.2.2.1 (by assumption) (by assumption) (neAll_lt hlt.2.2.2)
end Mine
end

-- HeadB10
section
theorem Mine.offHeadB10 : True := by
  w_top off
  trivial
open PySem PySem.W PyProof.Rows PySem.Calls
set_option linter.unusedVariables false
namespace Mine
open Mine10
theorem item_ok {P : Params} {items : List It} {tw : List (Addr × Obj)} {k : Nat} (O : ItOk P items tw k) {i : Nat} {x : It} (h : items[i]? = some x) : ItemOk P tw x := O.ok x (List.mem_of_getElem? h)
theorem src_step {w : World} {mean : ExcName → Option Value} {mg mb : Str → Option Value} {a : Addr} {ccd : Value} {base h₀ : Heap} {L : Addr} {m : Str → Option Value} {s : Shared} {Q : Value → Shared → Prop} {E : Value → Shared → Prop} {it pl : Addr} {t : Tok} {items : List It} {tw : List (Addr × Obj)} {n : Nat} {p0 : Tok}
    (B : Below callerA base [] h₀) (F : Fr h₀ L s.heap m) (X : (hd10.heap_39 w.params).In h₀) (T : Top topProg loose10 mean mg mb h₀) {h9 : Heap} (hT9 : TabsAt [(138, 134)] h9) (C : CodeHd base 138 134) (N : News h₀ L s.heap ((134, tabObj #[]) :: (pl, W.listOf #[.int 0 p0] 0) :: (it, W.listOf (items.map It.val).toArray n) :: tw))
    (O : ItOk w.params items tw 63) (n1 : @Ne Nat 134 it) (n2 : @LT.lt Nat _ it pl) (n3 : @LT.lt Nat _ 134 pl) (n4 : NeAll it tw) (n5 : NeAll 134 tw) (n6 : NeAll pl tw)
    (fin : ∀ (S : SP) tab h' tk', S.it = it → S.pl = pl → S.items = items → S.mt = t → S.Ok w.params → Fr h₀ L h' m → News h₀ L h' (S.led w.params 0 p0 0 ++ ((134, tabObj tab) :: tw)) → Q (.ref S.src) { s with heap := h', toks := tk' }) :
    wpAny (model prog10 w) (callerA.deeper (lawE L a ccd)) (call (.ref 139) [.ref it, .str (marksOf items) t, .ref pl]) Q E s := by
  have N0 : News h₀ L s.heap ((134, tabObj #[]) :: (pl, W.listOf #[.int 0 p0] 0) :: (it, W.listOf (items.map It.val).toArray n) :: []) := fun p hp => N p (by
    simp only [List.mem_cons, List.not_mem_nil, or_false] at hp ⊢
    rcases hp with h | h | h
    · exact .inl h
    · exact .inr (.inl h)
    · exact .inr (.inr (.inl h)))
  refine src_call2 B F X N0 T hT9 C ⟨n1, n2, n3⟩ ?_
  intro src tt ds lf lc c1 c2 c3 c4 o1 o2 o3 o4 oc fo tk tab h' tk' d1 d2 d3 d4 LF F' N' nq new keep
  obtain ⟨q, LF⟩ := LF
  have hin : ∀ p ∈ tw, s.heap.get? p.1 = some p.2 := fun p hp => (N p (.tail _ (.tail _ (.tail _ hp)))).1
  refine fin ⟨it, pl, src, tt, ds, lf, lc, c1, c2, c3, c4, o1, o2, o3, o4, oc, fo, tk, t, q, items, n⟩ tab h' tk' rfl rfl rfl rfl ⟨d1, d2, d3, d4, LF, nq, n2, by have := O.hi; dsimp only; omega, ?_, ?_, ?_, ?_⟩ F' ?_
  · intro i b u hi
    rcases hi with hi | hi
    · exact (item_ok O hi).1
    · rcases (item_ok O hi : b = #[13, 10] ∨ b = #[10]) with rfl | rfl <;> decide
  · intro i b u hi
    exact (item_ok O hi).2
  · intro j e he p hp z
    obtain ⟨oe, ho, G⟩ := (item_ok O he : ∃ oe, (e, oe) ∈ tw ∧ Good w.params oe e)
    rcases List.mem_cons.mp hp with rfl | hp
    · exact n6 _ ho z.symm
    · rcases List.mem_cons.mp hp with rfl | hp
      · exact n4 _ ho z.symm
      · have z1 := new p hp
        rw [z, hin _ ho] at z1
        cases z1
  · intro i b u hi
    exact item_ok O hi
  · intro p hp
    rcases List.mem_append.mp hp with hp | hp
    · refine N' p ?_
      rcases List.mem_cons.mp hp with rfl | hp
      · exact List.mem_append_right _ (.tail _ (.head _))
      · rcases List.mem_cons.mp hp with rfl | hp
        · exact List.mem_append_right _ (.tail _ (.tail _ (.head _)))
        · exact List.mem_append_left _ hp
    · rcases List.mem_cons.mp hp with rfl | hp
      · exact N' _ (List.mem_append_right _ (.head _))
      · have z := N p (.tail _ (.tail _ (.tail _ hp)))
        exact ⟨keep _ _ z.1 (n5 p hp), z.2⟩
/-- what the law's frame holds at the loop's head -/
structure FW (m : Str → Option Value) (S : SP) (i : Nat) (tt : Tok) : Prop where
  items : m (Str.ofString "items") = some (.ref S.it)
  marks : m (Str.ofString "marks") = some (.str (marksOf S.items) S.mt)
  place : m (Str.ofString "place") = some (.ref S.pl)
  source : m (Str.ofString "source") = some (.ref S.src)
  at_ : m (Str.ofString "at") = some (.int (i : Int) tt)
local macro_rules | `(tactic| walk_at "idle") => `(tactic| skip)
local macro_rules | `(tactic| walk_at "call ref") => `(tactic| (k_here; k_dflt (refine src_step (s := ⟨_, _, _, _, _⟩) (by k_asm) (by k_asm) (by k_asm) (by k_asm) (by assumption) (by assumption) (by k_asm) (by assumption) (by assumption) (by assumption) (by assumption) (by assumption) (by assumption) (by assumption) ?_; k_whole); intro S' tab' h' tk' e1' e2' e3' e4' K' F' N'))
set_option maxRecDepth 100000 in
set_option maxHeartbeats 1000000 in
theorem head2 {w : World} {mean : ExcName → Option Value} {mg mb : Str → Option Value} {a : Addr} {ccd : Value} {base h₀ : Heap} {L : Addr} {m : Str → Option Value} {s : Shared} {Q : Flow → Shared → Prop} {E : Value → Shared → Prop} {it pl : Addr} {t : Tok} {items : List It} {tw : List (Addr × Obj)} {n : Nat} {p0 : Tok}
    (B : Below callerA base [] h₀) (F : Fr h₀ L s.heap (mapH m (marksOf items) t it pl)) (X : (hd10.heap_39 w.params).In h₀) (T : Top topProg loose10 mean mg mb h₀) {h9 : Heap} (hT9 : TabsAt [(138, 134)] h9) (C : CodeHd base 138 134) (N : News h₀ L s.heap ((134, tabObj #[]) :: (pl, W.listOf #[.int 0 p0] 0) :: (it, W.listOf (items.map It.val).toArray n) :: tw))
    (O : ItOk w.params items tw 63) (n1 : @Ne Nat 134 it) (n2 : @LT.lt Nat _ it pl) (n3 : @LT.lt Nat _ 134 pl) (n4 : NeAll it tw) (n5 : NeAll 134 tw) (n6 : NeAll pl tw)
    (fin : ∀ (S : SP) tab t0 h' tk' m', S.it = it → S.pl = pl → S.items = items → S.Ok w.params → FW m' S 0 t0 → m' (Str.ofString "ended") = some (.bool false) → Fr h₀ L h' m' → News h₀ L h' (S.led w.params 0 p0 0 ++ ((134, tabObj tab) :: tw)) → Q .next { s with heap := h', toks := tk' }) :
    wpAny (model prog10 w) (callerA.deeper (lawE L a ccd)) (execs [nthS lawB 2, nthS lawB 3, nthS lawB 4] (lawE L a ccd)) Q E s := by
  have hfill : PySem.Challenge.rw_dm0148_10.about = PySem.Challenge.rw_dm0148_10.about ∧ hd10.heap_39 = hd10.heap_39 := by k_fill; exact ⟨rfl, rfl⟩
  clear hfill
  conv in (execs _ _) => arg 1; arg 1; whnf
  conv in (execs _ _) => arg 1; arg 2; arg 1; whnf
  conv in (execs _ _) => arg 1; arg 2; arg 2; arg 1; whnf
  w_strict (k_steps)
  rename Fr h₀ L _ _ => kF
  rename News h₀ L _ _ => kN
  rename_i S' tab' _ _ e1 e2 e3 e4 K' _ _ _
  subst e1 e2 e3 e4
  exact fin S' _ _ _ _ _ rfl rfl rfl K' ⟨by rfl, by rfl, by rfl, by rfl, by rfl⟩ (by rfl) kF kN
end Mine
end

-- LwA10
section
theorem Mine.offLwA10 : True := by
  w_top off
  trivial
open PySem PySem.W PyProof.Rows PySem.Calls
set_option linter.unusedVariables false
namespace Mine
open Mine10
abbrev mapW (m : Str → Option Value) (S : SP) (i : Nat) (tt : Tok) : Str → Option Value := fun y => if y = Str.ofString "at" then some (.int (i : Int) tt) else if y = Str.ofString "items" then some (.ref S.it) else if y = Str.ofString "marks" then some (.str (marksOf S.items) S.mt) else if y = Str.ofString "place" then some (.ref S.pl) else if y = Str.ofString "source" then some (.ref S.src) else m y
theorem mapW_eq {m : Str → Option Value} {S : SP} {i : Nat} {tt : Tok} (H : FW m S i tt) : m = mapW m S i tt := by
  refine funext fun y => ?_
  unfold mapW
  by_cases c1 : y = Str.ofString "at"
  · subst c1; rw [if_pos rfl]; exact H.at_
  · rw [if_neg c1]
    by_cases c2 : y = Str.ofString "items"
    · subst c2; rw [if_pos rfl]; exact H.items
    · rw [if_neg c2]
      by_cases c3 : y = Str.ofString "marks"
      · subst c3; rw [if_pos rfl]; exact H.marks
      · rw [if_neg c3]
        by_cases c4 : y = Str.ofString "place"
        · subst c4; rw [if_pos rfl]; exact H.place
        · rw [if_neg c4]
          by_cases c5 : y = Str.ofString "source"
          · subst c5; rw [if_pos rfl]; exact H.source
          · rw [if_neg c5]
theorem reading_step {w : World} {mean : ExcName → Option Value} {mg mb : Str → Option Value} {dp un : Nat} {gd : Option (List Code)} {a : Addr} {ccd : Value} {base h₀ : Heap} {A₀ : Around} {L : Addr} {m : Str → Option Value} {s : Shared} {Q E : Value → Shared → Prop} {S : SP} {i np : Nat} {t tt : Tok} {o : Out} {ew : List (Addr × Obj)}
    (B : Below A₀ base [] h₀) (F : Fr h₀ L s.heap m) (X : (hd10.heap_39 w.params).In h₀) (T : Top topProg loose10 mean mg mb h₀) (K : S.Ok w.params) (N : News h₀ L s.heap (S.led w.params i t np ++ ew)) (h2 : 1 < S.items.length) (hdp : dp + 300 < recursionLimit) (hun : un + 2000 < cLine) (hop : opens S.items i ≤ 64) (R : RD S.items i [] o)
    (fin : ∀ V D h' tk' tt' own', Fr h₀ L h' m → News h₀ L h' ((D, ({ cls := .type "tuple", data := .seq #[V, .int (o.pos : Int) tt'] } : Obj)) :: (own' ++ (S.led w.params i t np ++ ew))) → RV o V own' → NeAll S.pl own' → Q (.ref D) { s with heap := h', toks := tk' }) :
    wpAny (model prog10 w) (lawA dp un gd L a ccd) (call (.ref 146) [.ref S.it, .str (marksOf S.items) S.mt, .int (i : Int) tt]) Q E s := by
  have N0 : News h₀ L s.heap [(S.it, W.listOf (S.items.map It.val).toArray S.ni)] := fun p hp => by
    rw [List.mem_singleton.mp hp]
    exact N _ (.tail _ (.head _))
  refine reading_call B F X T law_kind N0 K.hlen h2 (by omega) (by omega) (by omega) (sm_of_rd R) ?_
  intro V D h' tk' tt' own' F' kp N' new rv
  refine fin V D h' tk' tt' own' F' (fun p hp => ?_) rv (fun p hp z => ?_)
  · rcases List.mem_cons.mp hp with rfl | hp
    · exact N' _ (.head _)
    · rcases List.mem_append.mp hp with hp | hp
      · exact N' p (.tail _ hp)
      · exact ⟨kp _ _ (N p hp).1, (N p hp).2⟩
  · have hpl := (N (S.pl, W.listOf #[.int (i : Int) t] np) (.head _)).1
    rcases new p (.tail _ hp) with e | e
    · rw [z, hpl] at e
      cases e
    · exact absurd (e.symm.trans z) (Nat.ne_of_lt K.hip)
local macro_rules | `(tactic| k_all) => `(tactic| exact NeAll.out (by assumption))
local macro_rules | `(tactic| walk_at "idle") => `(tactic| skip)
local macro_rules | `(tactic| walk_at "call builtin:len") => `(tactic| (k_here; k_dflt (refine it_len (by k_asm) (by exact .tail _ (.head _)) (by assumption) ?_; k_whole)))
local macro_rules | `(tactic| walk_at "call ref") => `(tactic| (k_here; k_dflt (refine reading_step (s := ⟨_, _, _, _, _⟩) (by k_asm) (by k_asm) (by k_asm) (by k_asm) (by assumption) (by k_asm) (by assumption) (by assumption) (by assumption) (by assumption) (by assumption) ?_; k_whole); intro V' D' h' tk' tt' own' F' N' rv' ne'))
set_option maxRecDepth 100000 in
set_option maxHeartbeats 1000000 in
theorem law_b01 {w : World} {mean : ExcName → Option Value} {mg mb : Str → Option Value} {dp un : Nat} {gd : Option (List Code)} {a : Addr} {ccd : Value} {base h₀ : Heap} {A₀ : Around} {L : Addr} {m : Str → Option Value} {s : Shared} {Q : Flow → Shared → Prop} {E : Value → Shared → Prop} {S : SP} {i np : Nat} {t tt : Tok} {o : Out} {ew : List (Addr × Obj)}
    (B : Below A₀ base [] h₀) (F : Fr h₀ L s.heap (mapW m S i tt)) (X : (hd10.heap_39 w.params).In h₀) (T : Top topProg loose10 mean mg mb h₀) (K : S.Ok w.params) (N : News h₀ L s.heap (S.led w.params i t np ++ ew)) (h2 : 1 < S.items.length) (hdp : dp + 300 < recursionLimit) (hun : un + 2000 < cLine) (hop : opens S.items i ≤ 64) (R : RD S.items i [] o) (hlen : S.items.length ≤ 1000)
    (fin : ∀ V tt' own' h' tk' m', FW m' S o.pos tt' → m' (Str.ofString "due") = some V → m' (Str.ofString "ended") = some (.bool (decide ((S.items.length : Int) ≤ (i : Int)))) → Fr h₀ L h' m' → News h₀ L h' (own' ++ (S.led w.params i t np ++ ew)) → RV o V own' → NeAll S.pl own' → Q .next { s with heap := h', toks := tk' }) :
    wpAny (model prog10 w) (lawA dp un gd L a ccd) (execs [nthS lwB 0, nthS lwB 1] (lawE L a ccd)) Q E s := by
  have hfill : PySem.Challenge.rw_dm0148_10.about = PySem.Challenge.rw_dm0148_10.about ∧ hd10.heap_39 = hd10.heap_39 := by k_fill; exact ⟨rfl, rfl⟩
  clear hfill
  conv in (execs _ _) => arg 1; arg 1; whnf
  conv in (execs _ _) => arg 1; arg 2; arg 1; whnf
  w_strict (k_steps)
  rename Fr h₀ L _ _ => kF
  rename News h₀ L _ _ => kN
  rename RV _ _ _ => rv
  exact fin _ _ _ _ _ _ ⟨by rfl, by rfl, by rfl, by rfl, by rfl⟩ (by rfl) (by rfl) kF (news_tail kN) rv (by assumption)
end Mine
end

-- LwT10
section
theorem Mine.offLwT10 : True := by
  w_top off
  trivial
open PySem PySem.W PyProof.Rows PySem.Calls
set_option linter.unusedVariables false
namespace Mine
open Mine10
theorem exm_err (P : Params) {cls : Value} (h : cls ∈ errCls) : exmOne (hd10.heap_39 P) cls (.type "Exception") = some true := by
  simp only [errCls, List.mem_cons, List.not_mem_nil, or_false] at h
  rcases h with rfl | rfl | rfl | rfl | rfl | rfl | rfl | rfl | rfl | rfl <;> kernel_rfl
theorem lay_true {h : Heap} {P : Addr → Prop} {d : Nat} {v : Value} {t : Tr} (x : Lay h P d v t) : Lay h (fun _ => True) d v t := x.imp fun _ _ => trivial
theorem read_step2 {w : World} {mean : ExcName → Option Value} {mg mb : Str → Option Value} {dp un : Nat} {gd : Option (List Code)} {a : Addr} {ccd : Value} {base h₀ : Heap} {A₀ : Around} {L : Addr} {m : Str → Option Value} {s : Shared} {Q E : Value → Shared → Prop} {S : SP} {i np : Nat} {t : Tok} {o : Out} {own ew : List (Addr × Obj)}
    (B : Below A₀ base [] h₀) (F : Fr h₀ L s.heap m) (X : (hd10.heap_39 w.params).In h₀) (T : Top topProg loose10 mean mg mb h₀) (C : CodeHd base 138 134) (K : S.Ok w.params) (N : News h₀ L s.heap (own ++ (S.led w.params i t np ++ ew))) (hdp : dp + 300 < recursionLimit) (hun : un + 2000 < cLine) (hop : opens S.items i ≤ 64) (R : RD S.items i [] o)
    (n1 : NeAll S.pl own) (n2 : NeAll S.pl ew) (fr : Fresh S w.params s.heap i)
    (ok : ∀ l a', o = .ok l a' → ∀ r h' t' np' tk' own2, Fr h₀ L h' m → News h₀ L h' (own2 ++ (own ++ (S.led w.params a' t' np' ++ ew))) → Rests own2 (fun _ => True) (opens S.items i + 1) (.ref r) (.node l) → Q (.ref r) { s with heap := h', toks := tk' })
    (ex : ∀ e cls a0 h' tk', ExcOf o s.heap h' w.params e cls a0 → ExcP S.pl [lawE L a ccd] s.heap h₀ L m o.pos e cls a0 h' → E (.ref e) { s with heap := h', toks := tk' }) :
    wpAny (model prog10 w) (lawA dp un gd L a ccd) (call (.ref 21) [.ref S.src]) Q E s := by
  have N0 : News h₀ L s.heap (S.led w.params i t np) := fun p hp => N p (List.mem_append_right _ (List.mem_append_left _ hp))
  refine read_ok K (S.items.length + 1) i o (by omega) R mean mg mb dp un gd (Str.ofString "law") lawScope a ccd [] [] A₀ base h₀ L m s Q E t np B F X T law_kind C N0 (by omega) (by omega) fr ?_ ex
  intro l a' eo r h' t' np' tk' F' N' kb ly
  obtain ⟨own2, hp2, rest2, _⟩ := lay_rests ly
  refine ok l a' eo r h' t' np' tk' own2 F' (fun p hp => ?_) (fun h2 k2 => lay_true (rest2 h2 k2))
  rcases List.mem_append.mp hp with hp | hp
  · obtain ⟨g1, g2⟩ := hp2 p hp
    refine ⟨g1, fun z => ?_, none_of F.keep g2⟩
    obtain ⟨oL, es, ep, hL, r⟩ := F.ns
    rw [← z, g2] at hL
    cases hL
  · rcases List.mem_append.mp hp with hp | hp
    · have z := N p (List.mem_append_left _ hp)
      exact ⟨kb _ _ z.1 (n1 p hp), z.2⟩
    · rcases List.mem_append.mp hp with hp | hp
      · exact N' p hp
      · have z := N p (List.mem_append_right _ (List.mem_append_right _ hp))
        exact ⟨kb _ _ z.1 (n2 p hp), z.2⟩
def tryS : Stmt := nthS lwB 2
def bodyT : Stmt → List Stmt
  | .Try b _ _ _ _ => b
  | _ => []
def hndT : Stmt → List ExceptHandler
  | .Try _ h _ _ _ => h
  | _ => []
def suiteH : List ExceptHandler → List Stmt
  | .ExceptHandler _ _ b _ :: _ => b
  | _ => []
def tryB : List Stmt := bodyT tryS
def excB : List Stmt := suiteH (hndT tryS)
theorem tryS_eq : ∃ np hp tp, tryS = .Try tryB [.ExceptHandler (some (.Name (Str.ofString "Exception") np)) (some (Str.ofString "err")) [nthS excB 0, nthS excB 1] hp] [] [] tp := ⟨_, _, _, by with_unfolding_all rfl⟩
theorem tryB_eq : tryB = [nthS tryB 0, nthS tryB 1] := by with_unfolding_all rfl
local macro_rules | `(tactic| k_all) => `(tactic| exact NeAll.out (by assumption))
local macro_rules | `(tactic| walk_at "call ref") => `(tactic| (k_here; k_dflt (refine read_step2 (s := ⟨_, _, _, _, _⟩) (by k_asm) (by k_asm) (by k_asm) (by k_asm) (by assumption) (by assumption) (by k_asm) (by assumption) (by assumption) (by assumption) (by assumption) (by assumption) (by assumption) (by assumption) ?_ (by assumption); k_whole); intro l' a' eo' r' h' t' np' tk' own2' F' N' rs'))
set_option maxRecDepth 100000 in
set_option maxHeartbeats 1000000 in
theorem try_body {w : World} {mean : ExcName → Option Value} {mg mb : Str → Option Value} {dp un : Nat} {gd : Option (List Code)} {a : Addr} {ccd : Value} {base h₀ : Heap} {A₀ : Around} {L : Addr} {m : Str → Option Value} {s : Shared} {Q : Flow → Shared → Prop} {E : Value → Shared → Prop} {S : SP} {i ia np : Nat} {t tt : Tok} {o : Out} {own ew : List (Addr × Obj)}
    (B : Below A₀ base [] h₀) (F : Fr h₀ L s.heap (mapW m S ia tt)) (X : (hd10.heap_39 w.params).In h₀) (T : Top topProg loose10 mean mg mb h₀) (C : CodeHd base 138 134) (K : S.Ok w.params) (N : News h₀ L s.heap (own ++ (S.led w.params i t np ++ ew))) (hdp : dp + 300 < recursionLimit) (hun : un + 2000 < cLine) (hop : opens S.items i ≤ 64) (R : RD S.items i [] o)
    (n1 : NeAll S.pl own) (n2 : NeAll S.pl ew) (fr : Fresh S w.params s.heap i)
    (ex : ∀ e cls a0 h' tk', ExcOf o s.heap h' w.params e cls a0 → ExcP S.pl [lawE L a ccd] s.heap h₀ L (mapW m S ia tt) o.pos e cls a0 h' → E (.ref e) { s with heap := h', toks := tk' })
    (ok : ∀ l a', o = .ok l a' → ∀ r t' np' own2 h' tk', Fr h₀ L h' (fun y => if y = Str.ofString "raised" then some (.bool false) else if y = Str.ofString "told" then some (.ref r) else mapW m S ia tt y) → News h₀ L h' (own2 ++ (own ++ (S.led w.params a' t' np' ++ ew))) → Rests own2 (fun _ => True) (opens S.items i + 1) (.ref r) (.node l) → Q .next { s with heap := h', toks := tk' }) :
    wpAny (model prog10 w) (lawA dp un gd L a ccd) (execs [nthS tryB 0, nthS tryB 1] (lawE L a ccd)) Q E s := by
  have hfill : PySem.Challenge.rw_dm0148_10.about = PySem.Challenge.rw_dm0148_10.about ∧ hd10.heap_39 = hd10.heap_39 := by k_fill; exact ⟨rfl, rfl⟩
  clear hfill
  conv in (execs _ _) => arg 1; arg 1; whnf
  conv in (execs _ _) => arg 1; arg 2; arg 1; whnf
  w_strict (k_steps)
  rename Fr h₀ L _ _ => kF
  rename News h₀ L _ _ => kN
  rename Rests _ _ _ _ _ => rs
  rename o = _ => eo
  exact ok _ _ eo _ _ _ _ _ _ kF kN rs
set_option maxRecDepth 100000 in
set_option maxHeartbeats 1000000 in
theorem exc_suite {w : World} {mean : ExcName → Option Value} {mg mb : Str → Option Value} {dp un : Nat} {gd : Option (List Code)} {a e : Addr} {ccd : Value} {base h₀ : Heap} {A₀ : Around} {L : Addr} {m : Str → Option Value} {s : Shared} {Q : Flow → Shared → Prop} {E : Value → Shared → Prop} {led : List (Addr × Obj)}
    (B : Below A₀ base [] h₀) (F : Fr h₀ L s.heap (fun y => if y = Str.ofString "err" then some (.ref e) else m y)) (X : (hd10.heap_39 w.params).In h₀) (T : Top topProg loose10 mean mg mb h₀) (N : News h₀ L s.heap led)
    (fin : ∀ h' tk', Fr h₀ L h' (fun y => if y = Str.ofString "raised" then some (.bool true) else if y = Str.ofString "told" then some (.ref e) else if y = Str.ofString "err" then some (.ref e) else m y) → News h₀ L h' led → Q .next { s with heap := h', toks := tk' }) :
    wpAny (model prog10 w) ((lawA dp un gd L a ccd).mark (some (.ref e))) (execs [nthS excB 0, nthS excB 1] (lawE L a ccd)) Q E s := by
  have hfill : PySem.Challenge.rw_dm0148_10.about = PySem.Challenge.rw_dm0148_10.about ∧ hd10.heap_39 = hd10.heap_39 := by k_fill; exact ⟨rfl, rfl⟩
  clear hfill
  conv in (execs _ _) => arg 1; arg 1; whnf
  conv in (execs _ _) => arg 1; arg 2; arg 1; whnf
  w_strict (k_steps)
  rename Fr h₀ L _ _ => kF
  rename News h₀ L _ _ => kN
  exact fin _ _ kF kN
set_option maxRecDepth 100000 in
set_option maxHeartbeats 1000000 in
theorem exc_name {w : World} {mean : ExcName → Option Value} {mg mb : Str → Option Value} {A : Around} {a : Addr} {ccd : Value} {base h₀ : Heap} {A₀ : Around} {L : Addr} {m : Str → Option Value} {s : Shared} {Q : Value → Shared → Prop} {E : Value → Shared → Prop} {np : Pos}
    (B : Below A₀ base [] h₀) (F : Fr h₀ L s.heap m) (X : (hd10.heap_39 w.params).In h₀) (T : Top topProg loose10 mean mg mb h₀) (fin : Q (.type "Exception") s) :
    wpAny (model prog10 w) A (eval (.Name (Str.ofString "Exception") np) (lawE L a ccd)) Q E s := by
  have hfill : PySem.Challenge.rw_dm0148_10.about = PySem.Challenge.rw_dm0148_10.about ∧ hd10.heap_39 = hd10.heap_39 := by k_fill; exact ⟨rfl, rfl⟩
  clear hfill
  w_strict (k_steps)
  exact fin
end Mine
end

-- LwX10
section
theorem Mine.offLwX10 : True := by
  w_top off
  trivial
open PySem PySem.W PyProof.Rows PySem.Calls
set_option linter.unusedVariables false
namespace Mine
open Mine10
/-- what is known of the exception that was caught -/
def ExT (o : Out) (h₀ : Heap) (tl : List (Addr × Obj)) (e : Addr) (cls a0 : Value) : Prop :=
  match o with
  | .ok _ _ => False
  | .err e' _ => e = e' ∧ cls ∈ errCls
  | .many _ => cls = .ref 31 ∧ ∃ tx u, a0 = .ref tx ∧ ∀ h'' : Heap, Kp h₀ h'' → (∀ p ∈ tl, h''.get? p.1 = some p.2) → h''.TupAt tx [.str (Str.ofString "got more than 100 headers") u]
theorem err_local {L a : Addr} {ccd : Value} : (lawE L a ccd).kindOf (Str.ofString "err") = some .local := by kernel_rfl
theorem law_plain {L a : Addr} {ccd : Value} : ((lawE L a ccd).scope.kind == .class || ((lawE L a ccd).scope.kind == .module && (lawE L a ccd).locals != (lawE L a ccd).globals)) = false := by kernel_rfl
theorem try_exc {w : World} {mean : ExcName → Option Value} {mg mb : Str → Option Value} {dp un : Nat} {gd : Option (List Code)} {a : Addr} {ccd : Value} {base h₀ : Heap} {A₀ : Around} {L : Addr} {m : Str → Option Value} {s : Shared} {Q : Flow → Shared → Prop} {E : Value → Shared → Prop} {S : SP} {i np : Nat} {t : Tok} {o : Out} {own ew : List (Addr × Obj)} {e : Addr} {cls a0 : Value} {h' : Heap} {tk' : Nat} {hp nps : Pos}
    (B : Below A₀ base [] h₀) (F : Fr h₀ L s.heap m) (X : (hd10.heap_39 w.params).In h₀) (T : Top topProg loose10 mean mg mb h₀) (K : S.Ok w.params) (N : News h₀ L s.heap (own ++ (S.led w.params i t np ++ ew))) (n2 : NeAll S.pl ew)
    (hew : ∀ e a, o = .err e a → ∃ oe, (e, oe) ∈ ew ∧ oe.cls ∈ errCls ∧ ∀ p ∈ S.led w.params 0 0 0, p.1 ≠ e)
    (EO : ExcOf o s.heap h' w.params e cls a0) (EP : ExcP S.pl [lawE L a ccd] s.heap h₀ L m o.pos e cls a0 h')
    (fin : ∀ oe vs tl ew' h2 tk2 v t' np', ExT o h₀ tl e cls a0 → oe.cls = cls → oe.data = .fields vs → vs[0]? = some a0 → (∀ p ∈ ew, p.1 ≠ e → p ∈ ew') → (∀ p ∈ ew', p ∈ ew) → ((∃ a, o = .err e a) ∨ ∀ p ∈ ew, p.1 ≠ e) → Fr h₀ L h2 (fun y => if y = Str.ofString "err" then v else if y = Str.ofString "raised" then some (.bool true) else if y = Str.ofString "told" then some (.ref e) else if y = Str.ofString "err" then some (.ref e) else m y) → News h₀ L h2 ((e, oe) :: (tl ++ (S.led w.params o.pos t' np' ++ ew'))) → Q .next { s with heap := h2, toks := tk2 }) :
    wpAny (model prog10 w) (lawA dp un gd L a ccd) (noteFrame (.ref e) (lawE L a ccd)) (fun _ s₂ => wpAny (model prog10 w) (lawA dp un gd L a ccd) (setFlight (.ref e) none) (fun _ s₃ => wpAny (model prog10 w) (lawA dp un gd L a ccd) (handleBy (.ref e) (lawE L a ccd) [.ExceptHandler (some (.Name (Str.ofString "Exception") nps)) (some (Str.ofString "err")) [nthS excB 0, nthS excB 1] hp]) Q E s₃) E s₂) E { s with heap := h', toks := tk' } := by
  obtain ⟨Bh, g₂, t3, np3, fl, hk, hpl, F2, up⟩ := EP
  have hL0 : h₀.get? L = none := Heap.get?_none_of_le F.above
  have hfm : [lawE L a ccd].filterMap (·.frame) = [L] := rfl
  have Npl := N (S.pl, W.listOf #[.int (i : Int) t] np) (List.mem_append_right _ (List.mem_append_left _ (.head _)))
  have hcls : cls ∈ errCls ∧ h₀.get? e = none ∧ (∀ p ∈ S.led w.params 0 0 0, p.1 ≠ e) ∧ e ≠ L := by
    cases o with
    | ok l x => exact EO.elim
    | err e' x =>
      obtain ⟨rfl, oe, h1, pr⟩ := EO
      obtain ⟨oe', hm, hc, hl⟩ := hew _ _ rfl
      have z := N _ (List.mem_append_right _ (List.mem_append_right _ hm))
      rw [h1] at z
      obtain ⟨z1, z2, z3⟩ := z
      cases z1
      obtain ⟨vs, c1, _⟩ := pr.ob
      exact ⟨c1 ▸ hc, z3, hl, z2⟩
    | many x =>
      obtain ⟨hn, hc, _⟩ := EO
      refine ⟨by rw [hc]; decide, none_of F.keep hn, fun p hp z => ?_, fun z => ?_⟩
      · have hp' : ∃ o', (p.1, o') ∈ S.led w.params i t np := by
          rcases List.mem_cons.mp hp with rfl | hp
          · exact ⟨_, .head _⟩
          · exact ⟨p.2, .tail _ hp⟩
        obtain ⟨o', hp'⟩ := hp'
        have y := (N _ (List.mem_append_right _ (List.mem_append_left _ hp'))).1
        dsimp only at y
        rw [z, hn] at y
        cases y
      · obtain ⟨oL, es, ep, hL, _⟩ := F.ns
        rw [← z, hn] at hL
        cases hL
  obtain ⟨hcl, he0, hled, heL⟩ := hcls
  have hdis : (∃ a, o = .err e a) ∨ ∀ p ∈ ew, p.1 ≠ e := by
    cases o with
    | ok l x => exact EO.elim
    | err e' x => exact .inl ⟨x, by rw [EO.1]⟩
    | many x =>
      refine .inr fun p hp z => ?_
      have y := (N p (List.mem_append_right _ (List.mem_append_right _ hp))).1
      rw [z, EO.1] at y
      cases y
  have hst : Kp h₀ Bh := fun b ob hb => hk b ob (F.keep b ob hb) (fun z => by rw [z, Npl.2.2] at hb; cases hb) (fun z => by rw [z, he0] at hb; cases hb) (fun hm => by
    rw [hfm, List.mem_singleton] at hm
    rw [hm, hL0] at hb
    cases hb)
  -- what stays in Bh
  have hled' : ∀ p ∈ S.led w.params o.pos t3 np3, Bh.get? p.1 = some p.2 ∧ p.1 ≠ L ∧ h₀.get? p.1 = none := fun p hp => by
    rcases List.mem_cons.mp hp with rfl | hp
    · exact ⟨hpl, Npl.2⟩
    · have z := N p (List.mem_append_right _ (List.mem_append_left _ (.tail _ hp)))
      refine ⟨hk _ _ z.1 ?_ (hled p (.tail _ hp)) (fun hm => ?_), z.2⟩
      · intro c
        rcases List.mem_cons.mp hp with rfl | hp
        · exact Nat.ne_of_lt K.hip c
        · have hq := K.hq
          have : ∀ {l : List (Addr × Obj)}, AllNq S.pl l → ∀ p ∈ l, @Ne Nat p.1 S.pl := by
            intro l
            induction l with
            | nil => intro _ p hp; cases hp
            | cons x xs ih =>
              intro h p hp
              rcases List.mem_cons.mp hp with rfl | hp
              · exact h.1
              · exact ih h.2 p hp
          exact this hq p hp c
      · rw [hfm, List.mem_singleton] at hm
        exact z.2.1 hm
  have hew' : ∀ p ∈ ew.filter (fun p => decide (p.1 ≠ e)), Bh.get? p.1 = some p.2 ∧ p.1 ≠ L ∧ h₀.get? p.1 = none := fun p hp => by
    obtain ⟨hp, hne⟩ := List.mem_filter.mp hp
    have z := N p (List.mem_append_right _ (List.mem_append_right _ hp))
    refine ⟨hk _ _ z.1 (n2 p hp) (of_decide_eq_true hne) (fun hm => ?_), z.2⟩
    rw [hfm, List.mem_singleton] at hm
    exact z.2.1 hm
  refine wpAny_looks_onW (s := { s with heap := h', toks := tk' }) rfl rfl fl fun h4 held up4 => ?_
  refine wpAny_landsW (s := { s with heap := h4, toks := tk' }) held fun h5 fl5 up5 => ?_
  have up15 := (up.trans up4).trans up5
  have F5 : Fr h₀ L h5 m := F2.of_stays (fun b ob hb => fl5.1 b ob (hst b ob hb)) up15
  refine wpAny_handleBy_cons (codeAny_handlers_test (exc_name (s := { s with heap := h5, toks := tk' }) B F5 X T ?_)) (by intro q; cases q)
  have X5 : (hd10.heap_39 w.params).In h5 := X.keeps F5.keep
  obtain ⟨ob5, hob5, hobc⟩ := fl5.there
  have LT : Looks (model prog10 w) h5 (typeOf (.ref e)) cls := hobc ▸ (Looks.ld hob5).andThen .now
  refine (exm_one (h := h5) X5 LT (exm_err _ hcl)).here (s := { s with heap := h5, toks := tk' }) ?_
  rw [if_pos rfl]
  refine codeAny_handlers_suite_as (lands_againW (s := { s with heap := h5, toks := tk' }) fl5 fun h6 fl6 up6 => ?_)
  have F6 : Fr h₀ L h6 m := F2.of_stays (fun b ob hb => fl6.1 b ob (hst b ob hb)) (up15.trans up6)
  obtain ⟨oe, vs, hoe, hoc, hod, ho0⟩ := fl6.first
  -- the tuple of the arguments
  have htl : ∃ tl, ExT o h₀ tl e cls a0 ∧ ∀ p ∈ tl, h6.get? p.1 = some p.2 ∧ p.1 ≠ L ∧ h₀.get? p.1 = none := by
    cases o with
    | ok l x => exact EO.elim
    | err e' x => exact ⟨[], ⟨EO.1, hcl⟩, fun p hp => nomatch hp⟩
    | many x =>
      obtain ⟨hn, hc, tx, u, ha, htup⟩ := EO
      obtain ⟨ot, nt, hot, hotc, hotd⟩ := ((htup.of_slots up4).of_slots up5).of_slots up6
      cases q : h₀.get? tx with
      | some o1 =>
        have z := F6.keep _ _ q
        rw [hot] at z
        cases z
        exact ⟨[], ⟨hc, tx, u, ha, fun h'' k _ => ⟨ot, nt, k _ _ q, hotc, hotd⟩⟩, fun p hp => nomatch hp⟩
      | none =>
        refine ⟨[(tx, ot)], ⟨hc, tx, u, ha, fun h'' _ k => ⟨ot, nt, k _ (.head _), hotc, hotd⟩⟩, fun p hp => ?_⟩
        rw [List.mem_singleton.mp hp]
        refine ⟨hot, fun z => ?_, q⟩
        obtain ⟨oL, es, ep, hL, hr⟩ := F6.ns
        dsimp only at z
        rw [z, hL] at hot
        cases hot
        rw [hr.1] at hotd
        cases hotd
  obtain ⟨tl, ext, htl⟩ := htl
  have N6 : News h₀ L h6 ((e, oe) :: (tl ++ (S.led w.params o.pos t3 np3 ++ ew.filter (fun p => decide (p.1 ≠ e))))) := fun p hp => by
    rcases List.mem_cons.mp hp with rfl | hp
    · exact ⟨hoe, heL, he0⟩
    · rcases List.mem_append.mp hp with hp | hp
      · exact htl p hp
      · rcases List.mem_append.mp hp with hp | hp
        · exact ⟨fl6.1 _ _ (hled' p hp).1, (hled' p hp).2⟩
        · exact ⟨fl6.1 _ _ (hew' p hp).1, (hew' p hp).2⟩
  refine wpAny_storeName_local (m := m) err_local F6.ns (fun h7 n7 sb7 => ?_) law_plain
  have F7 := F6.set n7 sb7
  have N7 := news_set10 N6 sb7
  refine exc_suite (s := ⟨h7, _, _, _, _⟩) B F7 X T N7 fun h8 tk8 F8 N8 => ?_
  exact name_goes_keeps (s := ⟨h8, _, _, _, _⟩) F8 N8 (fun h9 v F9 N9 => fin oe vs tl _ h9 _ v t3 np3 ext hoc hod ho0 (fun p hp hne => List.mem_filter.mpr ⟨hp, decide_eq_true hne⟩) (fun p hp => (List.mem_filter.mp hp).1) hdis F9 N9) law_kind err_local
end Mine
end

-- AG10
section
theorem Mine.offAG10 : True := by
  w_top off
  trivial
open PySem PySem.W PyProof.Rows PySem.Spec PySem.Calls Builtin Builtin.ObjectAttr Builtin.Getset_descriptor Builtin.BaseException
set_option maxRecDepth 100000
set_option linter.unusedVariables false
namespace Mine
open Mine10
structure IW (h : Heap) (x : Addr) (ox : Obj) (C : Addr) : Prop where
  at_ : h.get? x = some ox
  cls : ox.cls = .ref C
theorem IW.type {M : Model} {h : Heap} {x C : Addr} {ox : Obj} (I : IW h x ox C) : Looks M h (typeOf (.ref x)) (.ref C) := I.cls ▸ (Looks.ld I.at_).andThen .now
theorem looks_findD {K : Frag} {M : Model} {h : Heap} {x C : Addr} {name : Str} {a g : Value} (X : K.In h) (ha : findIn K (.ref C) name = some (some a)) (hg : specialIn K a "__get__" = some (some g)) (hd : takesIn K a = some true) : Looks M h (find (.ref x) (.ref C) name) (.bind g a) := by
  have L1 := looks_findIn (M := M) X ha
  have L2 : Looks M h (getOf (some a)) (some g) := looks_specialIn X hg
  have L3 := looks_takesIn (M := M) X hd
  refine L1.andThen (L2.andThen ?_)
  exact (show Looks M h (dataDescriptor? (some a) (some g)) (some (g, a)) from L3.andThen .now).andThen (Looks.tag .now)
section
variable {prog : Program} {w : World} {A : Around} {R : Result → Shared → Prop} {E : Value → Shared → Prop} {s : Shared} {K : Frag} {x C L : Addr} {h₀ : Heap} {m : Str → Option Value} {cd : ClassData} {ox : Obj} {od : Option Obj} {name : Str}
theorem exc_ga_callW {tk : Tok} (X : K.In s.heap) (I : IW s.heap x ox C) (S : ExcGet K C cd)
    (h : wpAny (model prog w) A.in1 (Builtin.«object.__getattribute__» ⟨[.ref x, .str name tk], []⟩) (fun fin s' => match fin with | .done f => R (.ok f) s' | .again c' => c'.quiet = true ∧ codeAny (model prog w) A c' R s') (fun e s' => R (.error e) s') s) :
    codeAny (model prog w) A (.call (.builtin "BaseException.__getattribute__") ⟨[.ref x, .str name tk], []⟩) R s := by
  have sub : Looks (model prog w) s.heap (isInstance (.ref x) (.type "BaseException")) true := I.type.andThen (looks_mroIn X (by unfold mroIn; rw [S.cls, Option.bind_some, if_neg (by rw [S.ne]; decide), S.exc]))
  exact codeAny_call_builtin PySem.F.excAttr_ValueError.ga.plain PySem.F.entry_bexc_ga (@check_slot (model prog w) _ _ s "BaseException.__getattribute__" "BaseException" "__getattribute__" (.ref x) [.str name tk] [] _ ga_kind ga_split sub (PySem.F.args_bexc_ga (.ref x) (.str name tk)) h)

theorem exc_get_openW {expr : Bool} {Q : Value → Shared → Prop} (X : K.In s.heap) (I : IW s.heap x ox C) (S : ExcGet K C cd)
    (h : codeAny (model prog w) A (.call (.builtin "BaseException.__getattribute__") ⟨[.ref x, .str name s.toks], []⟩)
      (fun r s' => match r with | .ok (.ret v) => wpAny (model prog w) A (handedOut v) Q E s' | _ => False) { s with toks := s.toks + 1 }) :
    wpAny (model prog w) A (getAttr (.ref x) name expr) Q E s := by
  obtain ⟨hh, g, d, t, os⟩ := s
  have L0 := I.type (M := model prog w)
  have L1 := looks_findIn (M := model prog w) X S.ga
  have L2 := looks_findIn (M := model prog w) X S.hook
  unfold getAttr getAttrBy
  refine wpAny_bind (wpAny_mkText (wpAny_holding (wpAny_bind (L0.at (wpAny_bind (L1.at ?_))))))
  have hne : (onTheHeap (Value.ref C) && Value.builtin "BaseException.__getattribute__" == Value.builtin "object.__getattribute__") = false := by
    rw [show (Value.builtin "BaseException.__getattribute__" == Value.builtin "object.__getattribute__") = false by decide +kernel]; rfl
  dsimp only
  rw [hne, if_neg Bool.false_ne_true]
  unfold getAttrByItsOwn
  refine wpAny_bind ?_
  show wpAny _ _ (typeLookup (.ref C) "__getattr__") _ _ _
  refine L2.at ?_
  have hx0 : (expr && onTheHeap (Value.builtin "BaseException.__getattribute__")) = false := by cases expr <;> rfl
  unfold callGetattribute boundAndCalled
  rw [hx0, if_neg Bool.false_ne_true]
  refine wpAny_bind (wpAny_attempt (wpAny_holding ?_))
  rw [PySem.F.excAttr_ValueError.ga.bind]
  refine wpAny_bind (wpAny_pure (wpAny_call (codeAny_mono h fun r s' z => ?_)))
  rcases r with e | (v | _ | _ | _) <;> first | exact z.elim | exact z

theorem exc_get_argsW {expr : Bool} {t0 : Addr} {vs : Array Value} {Q : Value → Shared → Prop} (X : K.In s.heap) (I : IW s.heap x ox C) (S : ExcGet K C cd) (hd : ox.data = .fields vs) (h0 : vs[0]? = some (.ref t0))
    (ha : findIn K (.ref C) (Str.ofString "args") = some (some (.builtin "BaseException.args"))) (hg : specialIn K (.builtin "BaseException.args") "__get__" = some (some (.builtin "getset_descriptor.__get__"))) (hdd : takesIn K (.builtin "BaseException.args") = some true)
    (h : Q (.ref t0) { s with toks := s.toks + 1 }) : wpAny (model prog w) A (getAttr (.ref x) (Str.ofString "args") expr) Q E s := by
  refine exc_get_openW X I S (exc_ga_callW (s := { s with toks := s.toks + 1 }) X I S ?_)
  obtain ⟨hh', g, d, t, os⟩ := s
  have L0 := I.type (M := model prog w)
  have L1 := looks_findD (M := model prog w) (x := x) X ha hg hdd
  have L2 : Looks (model prog w) hh' (isSubtype (.ref C) (.type "BaseException")) true := looks_mroIn X (by unfold mroIn; rw [S.cls, Option.bind_some, if_neg (by rw [S.ne]; decide), S.exc])
  have hT5 : ∀ s' : Shared, s'.TypeIs (.builtin "BaseException.args") "getset_descriptor" := fun _ => PySem.F.typeOf_bexc_args
  unfold Builtin.«object.__getattribute__»
  refine wpAny_bind (wpAny_pure (wpAny_bind (wpAny_pure (wpAny_bind (L0.at (wpAny_bind (L1.at ?_)))))))
  show wpAny _ _ (holding [Value.builtin "BaseException.args"] (call (Value.builtin "getset_descriptor.__get__") [.builtin "BaseException.args", .ref x, .ref C]) >>= ret) _ _ _
  refine wpAny_bind (wpAny_holding (wpAny_call ?_))
  refine codeAny_call_builtin PySem.F.slot_gs_get.plain PySem.F.entry_gs_get ?_
  refine PySem.F.slot_gs_get.check _ _ _ _ _ _ _ _ (hT5 _) (PySem.F.args_gs_get _ _ _) ?_
  unfold Builtin.«getset_descriptor.__get__» descrGet
  rw [dga_obj]
  refine wpAny_bind (wpAny_pure ?_)
  unfold descrGetter descrCheckInstance descrNameAndClass isInstance
  simp only [args_owner]
  dsimp only at L0 L2
  repeat lk
  refine ⟨Code.quiet_builtin _ (by decide +kernel), codeAny_builtin PySem.F.entry_bexc_args ?_⟩
  have hnd : (Value.ref t0 == doubtfulMember) = false := by first | rfl | decide | simp [doubtfulMember, rawInt]
  unfold Builtin.«BaseException.args»
  refine wpAny_bind (wpAny_field I.at_ hd h0 ?_)
  rw [hnd, if_neg Bool.false_ne_true]
  exact wpAny_pure (wpAny_pure (wpAny_pure h))
end
theorem args31a (P : Params) : findIn (hd10.heap_39 P) (.ref 31) (Str.ofString "args") = some (some (.builtin "BaseException.args")) := by kernel_rfl
theorem args31b (P : Params) : specialIn (hd10.heap_39 P) (.builtin "BaseException.args") "__get__" = some (some (.builtin "getset_descriptor.__get__")) := by kernel_rfl
theorem args31c (P : Params) : takesIn (hd10.heap_39 P) (.builtin "BaseException.args") = some true := by kernel_rfl
theorem args31 {prog : Program} {w : World} {A : Around} {E : Value → Shared → Prop} {s : Shared} {x t0 : Addr} {oe : Obj} {vs : Array Value} {expr : Bool} {Q : Value → Shared → Prop} (X : (hd10.heap_39 w.params).In s.heap) (he : s.heap.get? x = some oe) (hc : oe.cls = .ref 31) (hd : oe.data = .fields vs) (h0 : vs[0]? = some (.ref t0)) (h : Q (.ref t0) { s with toks := s.toks + 1 }) : wpAny (model prog w) A (getAttr (.ref x) (Str.ofString "args") expr) Q E s :=
  exc_get_argsW X ⟨he, hc⟩ (get31 _) hd h0 (args31a _) (args31b _) (args31c _) h
end Mine
end

-- LwZ10
section
theorem Mine.offLwZ10 : True := by
  w_top off
  trivial
open PySem PySem.W PyProof.Rows PySem.Calls
set_option linter.unusedVariables false
namespace Mine
open Mine10
abbrev mapZ (m : Str → Option Value) (S : SP) (i : Nat) (tt : Tok) (b : Bool) (r V : Value) : Str → Option Value := fun y => if y = Str.ofString "raised" then some (.bool b) else if y = Str.ofString "told" then some r else if y = Str.ofString "due" then some V else mapW m S i tt y
theorem mapZ_eq {m : Str → Option Value} {S : SP} {i : Nat} {tt : Tok} {b : Bool} {r V : Value} (H : FW m S i tt) (h1 : m (Str.ofString "raised") = some (.bool b)) (h2 : m (Str.ofString "told") = some r) (h3 : m (Str.ofString "due") = some V) : m = mapZ m S i tt b r V := by
  refine funext fun y => ?_
  unfold mapZ
  by_cases c1 : y = Str.ofString "raised"
  · subst c1; rw [if_pos rfl]; exact h1
  · rw [if_neg c1]
    by_cases c2 : y = Str.ofString "told"
    · subst c2; rw [if_pos rfl]; exact h2
    · rw [if_neg c2]
      by_cases c3 : y = Str.ofString "due"
      · subst c3; rw [if_pos rfl]; exact h3
      · rw [if_neg c3]
        exact congrFun (mapW_eq H) y
theorem type_due {prog : Program} {w : World} {A : Around} {E : Value → Shared → Prop} {h : Heap} {g : Array GenState} {d : Drawn} {t : Nat} {os : OsState} {x : Addr} {ox : Obj} {c : Value} {Q : Value → Shared → Prop} (he : h.get? x = some ox) (hc : ox.cls = c) (hnb : (c == .type "builtin_function_or_method") = false) (hq : Q c ⟨h, g, d, t, os⟩) : wpAny (model prog w) A (call (.type "type") [.ref x]) Q E ⟨h, g, d, t, os⟩ := by
  subst hc
  exact call_type_obj he hnb hq
theorem errCls_nb {c : Value} (h : c ∈ errCls) : (c == .type "builtin_function_or_method") = false := by
  simp only [errCls, List.mem_cons, List.not_mem_nil, or_false] at h
  rcases h with rfl | rfl | rfl | rfl | rfl | rfl | rfl | rfl | rfl | rfl <;> rfl
theorem errCls_list {c : Value} (h : c ∈ errCls) : plainIs c (.type "list") = true ∧ c ≠ .type "list" := by
  simp only [errCls, List.mem_cons, List.not_mem_nil, or_false] at h
  rcases h with rfl | rfl | rfl | rfl | rfl | rfl | rfl | rfl | rfl | rfl <;> exact ⟨rfl, by first | (intro z; cases z; done) | (intro z; injection z with z; revert z; decide)⟩
theorem isnot_list {M : Model} {A : Around} {E : Value → Shared → Prop} {s : Shared} {c : Value} {Q : Value → Shared → Prop} (h : c ∈ errCls) (hq : Q (.bool true) s) : wpAny M A (compareOp .IsNot c (.type "list")) Q E s := wpAny_isNot_other (errCls_list h).1 (errCls_list h).2 hq
local macro_rules | `(tactic| walk_at "subscriptTail Name Constant ref int") => `(tactic| (k_here; k_dflt (refine pl_item (by k_asm) (by exact .head _) ?_ (by with_unfolding_all rfl) (by (intro _; with_unfolding_all rfl)); k_whole)))
local macro_rules | `(tactic| walk_at "call type:type") => `(tactic| (k_here; k_dflt (refine type_due (by assumption) (by assumption) (by first | exact rfl | exact errCls_nb (by assumption)) ?_; k_whole)))
local macro_rules | `(tactic| walk_at "compareOp NotEq ref ref") => `(tactic| (k_here; k_dflt (refine lay_ne (by assumption) (by assumption) (by assumption) ?_; k_whole)))
set_option maxRecDepth 100000 in
set_option maxHeartbeats 1000000 in
theorem tail_ok {w : World} {mean : ExcName → Option Value} {mg mb : Str → Option Value} {dp un : Nat} {gd : Option (List Code)} {a : Addr} {ccd : Value} {base h₀ : Heap} {A₀ : Around} {L r rd : Addr} {m : Str → Option Value} {s : Shared} {Q : Flow → Shared → Prop} {E : Value → Shared → Prop} {S : SP} {i np k d' : Nat} {t tt : Tok} {rest : List (Addr × Obj)} {od : Obj} {l : List Tr}
    (B : Below A₀ base [] h₀) (F : Fr h₀ L s.heap (mapZ m S i tt false (.ref r) (.ref rd))) (X : (hd10.heap_39 w.params).In h₀) (T : Top topProg loose10 mean mg mb h₀) (N : News h₀ L s.heap (S.led w.params i t np ++ rest)) (hdo : s.heap.get? rd = some od) (hdc : od.cls = .type "list")
    (L1 : Lay s.heap (fun _ => True) (k + 1) (.ref r) (.node l)) (L2 : Lay s.heap (fun _ => True) d' (.ref rd) (.node l)) (hu : (lawA dp un gd L a ccd).units + k + 1 < cLine)
    (fin : ∀ h' tk', Fr h₀ L h' (mapZ m S i tt false (.ref r) (.ref rd)) → News h₀ L h' (S.led w.params i t np ++ rest) → Q .next { s with heap := h', toks := tk' }) :
    wpAny (model prog10 w) (lawA dp un gd L a ccd) (execs [nthS lwB 3, nthS lwB 4] (lawE L a ccd)) Q E s := by
  have hfill : PySem.Challenge.rw_dm0148_10.about = PySem.Challenge.rw_dm0148_10.about ∧ hd10.heap_39 = hd10.heap_39 := by k_fill; exact ⟨rfl, rfl⟩
  clear hfill
  conv in (execs _ _) => arg 1; arg 1; whnf
  conv in (execs _ _) => arg 1; arg 2; arg 1; whnf
  w_strict (k_steps)
  · exact absurd rfl (by assumption)
  · exact fin _ _ (by assumption) (by assumption)
local macro_rules | `(tactic| walk_at "compareOp IsNot") => `(tactic| (k_here; k_dflt (refine isnot_list (by assumption) ?_)))
set_option maxRecDepth 100000 in
set_option maxHeartbeats 1000000 in
theorem tail_err {w : World} {mean : ExcName → Option Value} {mg mb : Str → Option Value} {dp un : Nat} {gd : Option (List Code)} {a : Addr} {ccd : Value} {base h₀ : Heap} {A₀ : Around} {L e : Addr} {m : Str → Option Value} {s : Shared} {Q : Flow → Shared → Prop} {E : Value → Shared → Prop} {S : SP} {i np : Nat} {t tt : Tok} {rest : List (Addr × Obj)} {oe : Obj} {cls : Value}
    (B : Below A₀ base [] h₀) (F : Fr h₀ L s.heap (mapZ m S i tt true (.ref e) (.ref e))) (X : (hd10.heap_39 w.params).In h₀) (T : Top topProg loose10 mean mg mb h₀) (N : News h₀ L s.heap (S.led w.params i t np ++ rest)) (hdo : s.heap.get? e = some oe) (hdc : oe.cls = cls) (hcl : cls ∈ errCls)
    (fin : ∀ h' tk', Fr h₀ L h' (mapZ m S i tt true (.ref e) (.ref e)) → News h₀ L h' (S.led w.params i t np ++ rest) → Q .next { s with heap := h', toks := tk' }) :
    wpAny (model prog10 w) (lawA dp un gd L a ccd) (execs [nthS lwB 3, nthS lwB 4] (lawE L a ccd)) Q E s := by
  have hfill : PySem.Challenge.rw_dm0148_10.about = PySem.Challenge.rw_dm0148_10.about ∧ hd10.heap_39 = hd10.heap_39 := by k_fill; exact ⟨rfl, rfl⟩
  clear hfill
  conv in (execs _ _) => arg 1; arg 1; whnf
  conv in (execs _ _) => arg 1; arg 2; arg 1; whnf
  w_strict (k_steps)
  · exact absurd rfl (by assumption)
  · exact fin _ _ (by assumption) (by assumption)
/-- the words of the one that is raised -/
def TupR (h₀ : Heap) (rest : List (Addr × Obj)) (tx : Addr) (u : Tok) : Prop := ∀ h'' : Heap, Kp h₀ h'' → (∀ p ∈ rest, h''.get? p.1 = some p.2) → h''.TupAt tx [.str (Str.ofString "got more than 100 headers") u]
theorem tup_ne {prog : Program} {w : World} {A : Around} {E : Value → Shared → Prop} {s : Shared} {h₀ : Heap} {L D tx : Addr} {m : Str → Option Value} {u u' : Tok} {led rest : List (Addr × Obj)} {Q : Value → Shared → Prop} (F : Fr h₀ L s.heap m) (N : News h₀ L s.heap ((D, tupObj [.str (Str.ofString "got more than 100 headers") u']) :: (led ++ rest))) (hT : TupR h₀ rest tx u) (hu : A.units < cLine) (h : Q (.bool false) s) :
    wpAny (model prog w) A (compareOp .NotEq (.ref tx) (.ref D)) Q E s := by
  obtain ⟨o, n, ho, hc, hd⟩ := hT s.heap F.keep fun p hp => (N p (.tail _ (List.mem_append_right _ hp))).1
  have h1 : s.heap.IsTuple tx [.str (Str.ofString "got more than 100 headers") u].toArray := ⟨o, ho, hc, n, hd⟩
  have h2 : s.heap.IsTuple D [.str (Str.ofString "got more than 100 headers") u'].toArray := ⟨_, (N _ (.head _)).1, rfl, 0, rfl⟩
  refine PySem.EqBoolInt.of_rcne (k := false) ?_ h
  have z := SeqAt.RcNeAt.tuples (A := A) (s := s) (e := fun _ => true) h1 h2 hu (fun j j1 j2 => ?_)
  · exact z
  · have e0 : j = 0 := by simp at j1; omega
    subst e0
    have y := SeqAt.EqAt.str_str (A := A.in1) (s := s) (Str.ofString "got more than 100 headers") u (Str.ofString "got more than 100 headers") u'
    rw [beq_self_eq_true] at y
    exact y
local macro_rules | `(tactic| walk_at "getAttr ref") => `(tactic| (k_here; k_dflt (refine args31 (in_of (by k_asm) (by k_asm)) (by assumption) (by assumption) (by assumption) (by assumption) ?_; k_whole)))
local macro_rules | `(tactic| walk_at "compareOp NotEq ref ref") => `(tactic| (k_here; k_dflt (refine tup_ne (by k_asm) (by k_asm) (by assumption) (by assumption) ?_; k_whole)))
set_option maxRecDepth 100000 in
set_option maxHeartbeats 1000000 in
theorem tail_many {w : World} {mean : ExcName → Option Value} {mg mb : Str → Option Value} {dp un : Nat} {gd : Option (List Code)} {a : Addr} {ccd : Value} {base h₀ : Heap} {A₀ : Around} {L e : Addr} {m : Str → Option Value} {s : Shared} {Q : Flow → Shared → Prop} {E : Value → Shared → Prop} {S : SP} {i np : Nat} {t tt : Tok} {rest : List (Addr × Obj)} {oe : Obj} {vs : Array Value} {tx : Addr} {u : Tok}
    (B : Below A₀ base [] h₀) (F : Fr h₀ L s.heap (mapZ m S i tt true (.ref e) .none)) (X : (hd10.heap_39 w.params).In h₀) (T : Top topProg loose10 mean mg mb h₀) (N : News h₀ L s.heap (S.led w.params i t np ++ rest)) (hdo : s.heap.get? e = some oe) (hdc : oe.cls = .ref 31) (hdd : oe.data = .fields vs) (hd0 : vs[0]? = some (.ref tx)) (hT : TupR h₀ rest tx u) (hu : (lawA dp un gd L a ccd).units < cLine)
    (fin : ∀ h' tk', Fr h₀ L h' (mapZ m S i tt true (.ref e) .none) → News h₀ L h' (S.led w.params i t np ++ rest) → Q .next { s with heap := h', toks := tk' }) :
    wpAny (model prog10 w) (lawA dp un gd L a ccd) (execs [nthS lwB 3, nthS lwB 4] (lawE L a ccd)) Q E s := by
  have hfill : PySem.Challenge.rw_dm0148_10.about = PySem.Challenge.rw_dm0148_10.about ∧ hd10.heap_39 = hd10.heap_39 := by k_fill; exact ⟨rfl, rfl⟩
  clear hfill
  conv in (execs _ _) => arg 1; arg 1; whnf
  conv in (execs _ _) => arg 1; arg 2; arg 1; whnf
  w_strict (k_steps)
  · exact absurd rfl (by assumption)
  · rename Fr h₀ L _ _ => kF
    rename News h₀ L _ _ => kN
    exact fin _ _ kF (news_tail kN)
end Mine
end

-- LwY10
section
theorem Mine.offLwY10 : True := by
  w_top off
  trivial
open PySem PySem.W PyProof.Rows PySem.Calls
set_option linter.unusedVariables false
namespace Mine
open Mine10
theorem execs_none {w : World} {A : Around} {env : Env} {Q : Flow → Shared → Prop} {E : Value → Shared → Prop} {s : Shared} (h : Q .next s) : wpAny (model prog10 w) A (execs [] env) Q E s := by
  rw [execs_nil]
  exact wpAny_pure h
/-- the whole try -/
theorem law_try {w : World} {mean : ExcName → Option Value} {mg mb : Str → Option Value} {dp un : Nat} {gd : Option (List Code)} {a : Addr} {ccd : Value} {base h₀ : Heap} {A₀ : Around} {L : Addr} {m : Str → Option Value} {s : Shared} {Q : Flow → Shared → Prop} {E : Value → Shared → Prop} {S : SP} {i ia np : Nat} {t tt : Tok} {o : Out} {own ew : List (Addr × Obj)}
    (B : Below A₀ base [] h₀) (F : Fr h₀ L s.heap (mapW m S ia tt)) (X : (hd10.heap_39 w.params).In h₀) (T : Top topProg loose10 mean mg mb h₀) (C : CodeHd base 138 134) (K : S.Ok w.params) (N : News h₀ L s.heap (own ++ (S.led w.params i t np ++ ew))) (hdp : dp + 300 < recursionLimit) (hun : un + 2000 < cLine) (hop : opens S.items i ≤ 64) (R : RD S.items i [] o)
    (n1 : NeAll S.pl own) (n2 : NeAll S.pl ew) (fr : Fresh S w.params s.heap i)
    (hew : ∀ e a, o = .err e a → ∃ oe, (e, oe) ∈ ew ∧ oe.cls ∈ errCls ∧ ∀ p ∈ S.led w.params 0 0 0, p.1 ≠ e)
    (ok : ∀ l a', o = .ok l a' → ∀ r t' np' own2 h' tk', Fr h₀ L h' (fun y => if y = Str.ofString "raised" then some (.bool false) else if y = Str.ofString "told" then some (.ref r) else mapW m S ia tt y) → News h₀ L h' (own2 ++ (own ++ (S.led w.params a' t' np' ++ ew))) → Rests own2 (fun _ => True) (opens S.items i + 1) (.ref r) (.node l) → Q .next { s with heap := h', toks := tk' })
    (ex : ∀ e cls a0 oe vs tl ew' h2 tk2 v t' np', ExT o h₀ tl e cls a0 → oe.cls = cls → oe.data = .fields vs → vs[0]? = some a0 → (∀ p ∈ ew, p.1 ≠ e → p ∈ ew') → (∀ p ∈ ew', p ∈ ew) → ((∃ a, o = .err e a) ∨ ∀ p ∈ ew, p.1 ≠ e) → Fr h₀ L h2 (fun y => if y = Str.ofString "err" then v else if y = Str.ofString "raised" then some (.bool true) else if y = Str.ofString "told" then some (.ref e) else if y = Str.ofString "err" then some (.ref e) else mapW m S ia tt y) → News h₀ L h2 ((e, oe) :: (tl ++ (S.led w.params o.pos t' np' ++ ew'))) → Q .next { s with heap := h2, toks := tk2 }) :
    wpAny (model prog10 w) (lawA dp un gd L a ccd) (exec tryS (lawE L a ccd)) Q E s := by
  obtain ⟨nps, hp, tp, e⟩ := tryS_eq
  rw [e]
  refine wpAny_Try_except ?_
  rw [tryB_eq]
  refine try_body B F X T C K N hdp hun hop R n1 n2 fr ?_ ?_
  · intro e cls a0 h' tk' EO EP
    exact try_exc B F X T K N n2 hew EO EP fun oe vs tl ew' h2 tk2 v t' np' => ex e cls a0 oe vs tl ew' h2 tk2 v t' np'
  · intro l a' eo r t' np' own2 h' tk' F' N' rs
    exact execs_none (ok l a' eo r t' np' own2 h' tk' F' N' rs)
end Mine
end

-- LwL10
section
theorem Mine.offLwL10 : True := by
  w_top off
  trivial
open PySem PySem.W PyProof.Rows PySem.Calls
set_option linter.unusedVariables false
namespace Mine
open Mine10
theorem rd_err_at {items : List It} {i : Nat} {acc : List Tr} {o : Out} (h : RD items i acc o) : ∀ e a, o = .err e a → ∃ j, a = j + 1 ∧ items[j]? = some (It.err e) := by
  induction h with
  | dot _ _ _ ih => exact ih
  | err h1 => intro e a z; cases z; exact ⟨_, rfl, h1⟩
  | op _ _ _ _ _ ih => exact ih
  | opOut _ _ _ ih => exact ih
  | _ => intro e a z; cases z
/-- the errors from place `i` on lie in `ew` -/
def Errs (S : SP) (P : Params) (ew : List (Addr × Obj)) (i : Nat) : Prop := ∀ (j : Nat) e, i ≤ j → S.items[j]? = some (It.err e) → ∃ oe, (e, oe) ∈ ew ∧ Good P oe e
theorem Errs.fresh {S : SP} {P : Params} {ew : List (Addr × Obj)} {i : Nat} {h : Heap} (x : Errs S P ew i) (k : ∀ p ∈ ew, h.get? p.1 = some p.2) : Fresh S P h i := fun j e hj he => by
  obtain ⟨oe, hm, ⟨a0, pr⟩, _⟩ := x j e hj he
  exact ⟨oe, oe.cls, a0, k _ hm, pr⟩
def LawI (gt : Addr × Obj) (S : SP) (P : Params) (h₀ : Heap) (L : Addr) (s₁ : Shared) (n : Nat) (s' : Shared) : Prop :=
  ∃ h tk m i t np tt b ew, s' = { s₁ with heap := h, toks := tk } ∧ Fr h₀ L h m ∧ FW m S i tt ∧ m (Str.ofString "ended") = some (.bool b) ∧ News h₀ L h (S.led P i t np ++ ew) ∧ NeAll S.pl ew ∧ Errs S P ew i ∧ gt ∈ ew ∧ n = (if b then 0 else 1 + (S.items.length + 1 - i))
theorem lwB_eq : lwB = [nthS lwB 0, nthS lwB 1] ++ (tryS :: [nthS lwB 3, nthS lwB 4]) := by with_unfolding_all rfl
theorem less {len i i' : Nat} (h : i < i') : (if decide ((len : Int) ≤ (i : Int)) = true then 0 else 1 + (len + 1 - i')) < 1 + (len + 1 - i) := by
  split
  · omega
  · rename_i c
    have : ¬ ((len : Int) ≤ (i : Int)) := fun z => c (decide_eq_true z)
    omega
theorem law_turn {w : World} {mean : ExcName → Option Value} {mg mb : Str → Option Value} {dp un : Nat} {gd : Option (List Code)} {a : Addr} {ccd : Value} {base h₀ : Heap} {A₀ : Around} {L : Addr} {s₁ : Shared} {Q : Flow → Shared → Prop} {E : Value → Shared → Prop} {S : SP} {gt : Addr × Obj}
    (B : Below A₀ base [] h₀) (X : (hd10.heap_39 w.params).In h₀) (T : Top topProg loose10 mean mg mb h₀) (C : CodeHd base 138 134) (K : S.Ok w.params) (hdp : dp + 300 < recursionLimit) (hun : un + 2000 < cLine) (hop : opens S.items 0 ≤ 64) (h2 : 1 < S.items.length)
    (hnd : ∀ (j j' : Nat) e, S.items[j]? = some (It.err e) → S.items[j']? = some (It.err e) → j = j')
    {h : Heap} {tk : Nat} {m : Str → Option Value} {i : Nat} {t : Tok} {np : Nat} {tt : Tok} {ew : List (Addr × Obj)} (F : Fr h₀ L h m) (H : FW m S i tt) (N : News h₀ L h (S.led w.params i t np ++ ew)) (n2 : NeAll S.pl ew) (Er : Errs S w.params ew i) (hgt : gt ∈ ew) (hge : ∀ (j : Nat) e, S.items[j]? = some (It.err e) → gt.1 ≠ e)
    (fin : ∀ n' s₃, n' < 1 + (S.items.length + 1 - i) → LawI gt S w.params h₀ L s₁ n' s₃ → Q .next s₃) :
    wpAny (model prog10 w) (lawA dp un gd L a ccd) (execs lwB (lawE L a ccd)) Q E { s₁ with heap := h, toks := tk } := by
  obtain ⟨o, R⟩ := rd_exists (items := S.items) (S.items.length + 1) i [] (by omega) (by simp)
  have hpos := rd_lt R
  have hopi : opens S.items i ≤ 64 := Nat.le_trans (opens_le (Nat.zero_le i)) hop
  rw [mapW_eq H] at F
  rw [lwB_eq]
  refine wpAny_execs_append (law_b01 (s := { s₁ with heap := h, toks := tk }) B F X T K N h2 hdp hun hopi R K.hlen fun V tt' own h1 tk1 m1 H1 hdue hend F1 N1 rv ne => ?_)
  dsimp only
  rw [mapW_eq H1] at F1
  have hled : ∀ p ∈ ew, h1.get? p.1 = some p.2 := fun p hp => (N1 p (List.mem_append_right _ (List.mem_append_right _ hp))).1
  refine wpAny_execs_cons (law_try (s := { s₁ with heap := h1, toks := tk1 }) (ia := o.pos) B F1 X T C K N1 hdp hun hopi R ne n2 (Er.fresh hled) ?_ ?_ ?_)
  · intro e x eo
    obtain ⟨j, hj, he⟩ := rd_err R e x eo
    obtain ⟨oe, hm, _, hc⟩ := Er j e hj he
    exact ⟨oe, hm, hc, K.eled j e he⟩
  · intro l a' eo r t' np' own2 h3 tk3 F3 N3 rs
    dsimp only
    subst eo
    obtain ⟨rd, d, rfl, rs1⟩ := rv
    have N4 : News h₀ L h3 (S.led w.params a' t' np' ++ (own2 ++ (own ++ ew))) := fun p hp => N3 p (by
      simp only [List.mem_append] at hp ⊢
      rcases hp with h | h | h | h
      · exact .inr (.inr (.inl h))
      · exact .inl h
      · exact .inr (.inl h)
      · exact .inr (.inr (.inr h)))
    have L1 := rs h3 fun p hp => (N3 p (List.mem_append_left _ hp)).1
    have L2 := rs1 h3 fun p hp => (N3 p (List.mem_append_right _ (List.mem_append_left _ hp))).1
    have hd : ∃ od, h3.get? rd = some od ∧ od.cls = .type "list" := by
      cases L2 with
      | node _ ha _ _ => exact ⟨_, ha, rfl⟩
    obtain ⟨od, hd1, hd2⟩ := hd
    have H3 : FW (fun y => if y = Str.ofString "raised" then some (.bool false) else if y = Str.ofString "told" then some (.ref r) else mapW m1 S a' tt' y) S a' tt' := ⟨by rfl, by rfl, by rfl, by rfl, by rfl⟩
    have F4 : Fr h₀ L h3 (fun y => if y = Str.ofString "raised" then some (.bool false) else if y = Str.ofString "told" then some (.ref r) else mapW m1 S a' tt' y) := F3
    rw [mapZ_eq H3 (b := false) (r := .ref r) (V := .ref rd) (by rfl) (by rfl) hdue] at F4
    refine tail_ok (s := ⟨h3, _, _, _, _⟩) B F4 X T N4 hd1 hd2 L1 L2 (by show un + opens S.items i + 1 < cLine; omega) fun h5 tk5 F5 N5 => ?_
    refine fin _ _ (less hpos) ⟨h5, tk5, _, a', t', np', tt', decide ((S.items.length : Int) ≤ (i : Int)), ew, rfl, F5, ⟨by rfl, by rfl, by rfl, by rfl, by rfl⟩, hend, fun p hp => N5 p ?_, n2, fun j e hj he => Er j e (Nat.le_trans (Nat.le_of_lt hpos) hj) he, hgt, rfl⟩
    rcases List.mem_append.mp hp with hp | hp
    · exact List.mem_append_left _ hp
    · exact List.mem_append_right _ (List.mem_append_right _ (List.mem_append_right _ hp))
  · intro e cls a0 oe vs tl ew' h3 tk3 v t' np' ext hc hd h0 hs1 hs2 hdis F3 N3
    dsimp only
    have N4 : News h₀ L h3 (S.led w.params o.pos t' np' ++ ((e, oe) :: (tl ++ ew'))) := fun p hp => N3 p (by
      simp only [List.mem_append, List.mem_cons] at hp ⊢
      rcases hp with h | h | h | h
      · exact .inr (.inr (.inl h))
      · exact .inl h
      · exact .inr (.inl h)
      · exact .inr (.inr (.inr h)))
    have he3 : h3.get? e = some oe := (N3 _ (.head _)).1
    have n3 : NeAll S.pl ew' := fun p hp => n2 p (hs2 p hp)
    have Er' : Errs S w.params ew' o.pos := fun j e2 hj he2 => by
      obtain ⟨oe2, hm, G⟩ := Er j e2 (Nat.le_trans (Nat.le_of_lt hpos) hj) he2
      refine ⟨oe2, hs1 _ hm ?_, G⟩
      rcases hdis with ⟨x, eo⟩ | hdis
      · obtain ⟨j0, hx, hj0⟩ := rd_err_at R e x eo
        intro z
        have z' : e2 = e := z
        subst z'
        have y := hnd j j0 e2 he2 hj0
        have hp : o.pos = j0 + 1 := by rw [eo]; exact hx
        omega
      · exact hdis _ hm
    have hgt' : gt ∈ ew' := hs1 _ hgt (by
      rcases hdis with ⟨x, eo⟩ | hdis
      · obtain ⟨j0, _, hj0⟩ := rd_err_at R e x eo
        exact hge j0 e hj0
      · exact hdis _ hgt)
    have done : ∀ h5 tk5 m5, Fr h₀ L h5 m5 → News h₀ L h5 (S.led w.params o.pos t' np' ++ ((e, oe) :: (tl ++ ew'))) → FW m5 S o.pos tt' → m5 (Str.ofString "ended") = some (.bool (decide ((S.items.length : Int) ≤ (i : Int)))) → Q .next { s₁ with heap := h5, toks := tk5 } := fun h5 tk5 m5 F5 N5 H5 e5 => by
      refine fin _ _ (less hpos) ⟨h5, tk5, m5, o.pos, t', np', tt', _, ew', rfl, F5, H5, e5, fun p hp => N5 p ?_, n3, Er', hgt', rfl⟩
      rcases List.mem_append.mp hp with hp | hp
      · exact List.mem_append_left _ hp
      · exact List.mem_append_right _ (.tail _ (List.mem_append_right _ hp))
    have H3 : FW (fun y => if y = Str.ofString "err" then v else if y = Str.ofString "raised" then some (.bool true) else if y = Str.ofString "told" then some (.ref e) else if y = Str.ofString "err" then some (.ref e) else mapW m1 S o.pos tt' y) S o.pos tt' := ⟨by rfl, by rfl, by rfl, by rfl, by rfl⟩
    have F4 := F3
    rw [mapZ_eq H3 (b := true) (r := .ref e) (V := V) (by rfl) (by rfl) hdue] at F4
    cases o with
    | ok l x => exact ext.elim
    | err e' x =>
      obtain ⟨rfl, hcl⟩ := ext
      have hV : V = .ref e := rv
      subst hV
      exact tail_err (s := ⟨h3, _, _, _, _⟩) B F4 X T N4 he3 hc hcl fun h5 tk5 F5 N5 => done h5 tk5 _ F5 N5 ⟨by rfl, by rfl, by rfl, by rfl, by rfl⟩ hend
    | many x =>
      obtain ⟨hcl, tx, u, ha, htup⟩ := ext
      have hV : V = .none := rv
      subst hV
      subst ha
      have hT : TupR h₀ ((e, oe) :: (tl ++ ew')) tx u := fun h'' k1 k2 => htup h'' k1 fun p hp => k2 p (.tail _ (List.mem_append_left _ hp))
      exact tail_many (s := ⟨h3, _, _, _, _⟩) B F4 X T N4 he3 (hc.trans hcl) hd h0 hT (by show un < cLine; omega) fun h5 tk5 F5 N5 => done h5 tk5 _ F5 N5 ⟨by rfl, by rfl, by rfl, by rfl, by rfl⟩ hend
end Mine
end

-- LwW10
section
theorem Mine.offLwW10 : True := by
  w_top off
  trivial
open PySem PySem.W PyProof.Rows PySem.Calls
set_option linter.unusedVariables false
namespace Mine
open Mine10
theorem lawWhile_eq : lawWhile = .While (testS lawWhile) lwB [] (posS lawWhile) := by with_unfolding_all rfl
theorem lawB_eq10 : lawB = [nthS lawB 0, nthS lawB 1] ++ ([nthS lawB 2, nthS lawB 3, nthS lawB 4] ++ [lawWhile, nthS lawB 6]) := by with_unfolding_all rfl
set_option maxRecDepth 100000 in
set_option maxHeartbeats 1000000 in
theorem law_test {w : World} {mean : ExcName → Option Value} {mg mb : Str → Option Value} {dp un : Nat} {gd : Option (List Code)} {a : Addr} {ccd : Value} {base h₀ : Heap} {A₀ : Around} {L : Addr} {m : Str → Option Value} {s : Shared} {Q : Bool → Shared → Prop} {E : Value → Shared → Prop} {b : Bool}
    (B : Below A₀ base [] h₀) (F : Fr h₀ L s.heap (fun y => if y = Str.ofString "ended" then some (.bool b) else m y)) (X : (hd10.heap_39 w.params).In h₀) (T : Top topProg loose10 mean mg mb h₀) (h : Q (!b) s) : wpAny (model prog10 w) (lawA dp un gd L a ccd) (isTrue (testS lawWhile) (lawE L a ccd) (eval (testS lawWhile) (lawE L a ccd))) Q E s := by
  have hfill : PySem.Challenge.rw_dm0148_10.about = PySem.Challenge.rw_dm0148_10.about ∧ hd10.heap_39 = hd10.heap_39 := by k_fill; exact ⟨rfl, rfl⟩
  clear hfill
  have hT : testS lawWhile = testS lawWhile := rfl
  conv at hT => rhs; whnf
  rw [hT]
  w_strict (k_steps)
  exact h
set_option maxRecDepth 100000 in
set_option maxHeartbeats 1000000 in
theorem law_ret {w : World} {A : Around} {L a : Addr} {ccd : Value} {s : Shared} {Q : Flow → Shared → Prop} {E : Value → Shared → Prop} (fin : Q (.ret (.bool true)) s) : wpAny (model prog10 w) A (exec (nthS lawB 6) (lawE L a ccd)) Q E s := by
  conv in (exec _ _) => arg 1; whnf
  w_strict (k_steps)
  exact fin
theorem end_eq {m : Str → Option Value} {b : Bool} (h : m (Str.ofString "ended") = some (.bool b)) : m = fun y => if y = Str.ofString "ended" then some (.bool b) else m y := by
  refine funext fun y => ?_
  by_cases c : y = Str.ofString "ended"
  · subst c; rw [if_pos rfl]; exact h
  · rw [if_neg c]
theorem law_while {w : World} {mean : ExcName → Option Value} {mg mb : Str → Option Value} {dp un : Nat} {gd : Option (List Code)} {a : Addr} {ccd : Value} {base h₀ : Heap} {A₀ : Around} {L : Addr} {s₁ : Shared} {Q : Flow → Shared → Prop} {E : Value → Shared → Prop} {S : SP} {gt : Addr × Obj}
    (B : Below A₀ base [] h₀) (X : (hd10.heap_39 w.params).In h₀) (T : Top topProg loose10 mean mg mb h₀) (C : CodeHd base 138 134) (K : S.Ok w.params) (hdp : dp + 300 < recursionLimit) (hun : un + 2000 < cLine) (hop : opens S.items 0 ≤ 64) (h2 : 1 < S.items.length)
    (hnd : ∀ (j j' : Nat) e, S.items[j]? = some (It.err e) → S.items[j']? = some (It.err e) → j = j') (hge : ∀ (j : Nat) e, S.items[j]? = some (It.err e) → gt.1 ≠ e) (hE : PassesOwn (model prog10 w) (lawA dp un gd L a ccd) (lawE L a ccd) E)
    {n₀ : Nat} (I₀ : LawI gt S w.params h₀ L s₁ n₀ s₁) (fin : ∀ h tk m, Fr h₀ L h m → h.get? gt.1 = some gt.2 → Q .next { s₁ with heap := h, toks := tk }) :
    wpAny (model prog10 w) (lawA dp un gd L a ccd) (exec lawWhile (lawE L a ccd)) Q E s₁ := by
  rw [lawWhile_eq]
  refine While_own (LawI gt S w.params h₀ L s₁) I₀ (fun n s' I => ?_) hE
  obtain ⟨h, tk, m, i, t, np, tt, b, ew, rfl, F, H, he, N, n2, Er, hgt, hn⟩ := I
  have F' := F
  rw [end_eq he] at F'
  refine law_test (s := { s₁ with heap := h, toks := tk }) B F' X T ?_
  cases b with
  | true =>
    rw [if_neg (by decide)]
    exact fin h tk m F (N _ (List.mem_append_right _ hgt)).1
  | false =>
    rw [if_pos (show (!false) = true from rfl)]
    have hn' : n = 1 + (S.items.length + 1 - i) := hn
    subst hn'
    exact law_turn B X T C K hdp hun hop h2 hnd F H N n2 Er hgt hge fun n' s₃ hlt I' => ⟨n', hlt, I'⟩
theorem nd_of {P : Params} {items : List It} {tw : List (Addr × Obj)} {k : Nat} (O : ItOk P items tw k) : ∀ (j j' : Nat) e, items[j]? = some (It.err e) → items[j']? = some (It.err e) → j = j' := by
  have key : ∀ (l : List It), (l.filterMap errOf).Nodup → ∀ (j j' : Nat) e, l[j]? = some (It.err e) → l[j']? = some (It.err e) → j = j' := by
    intro l
    induction l with
    | nil => intro _ j j' e h; simp at h
    | cons x xs ih =>
      intro hn j j' e h h'
      have mem : ∀ (i : Nat), xs[i]? = some (It.err e) → e ∈ xs.filterMap errOf := fun i hi => List.mem_filterMap.mpr ⟨_, List.mem_of_getElem? hi, rfl⟩
      have hxs : (xs.filterMap errOf).Nodup := by
        rw [List.filterMap_cons] at hn
        split at hn
        · exact hn
        · exact (List.nodup_cons.mp hn).2
      have hx : x = It.err e → e ∉ xs.filterMap errOf := fun z => by
        subst z
        rw [List.filterMap_cons] at hn
        exact (List.nodup_cons.mp hn).1
      cases j with
      | zero =>
        cases j' with
        | zero => rfl
        | succ j' =>
          have h0 : x = It.err e := by simpa using h
          exact absurd (mem j' (by simpa using h')) (hx h0)
      | succ j =>
        cases j' with
        | zero =>
          have h0 : x = It.err e := by simpa using h'
          exact absurd (mem j (by simpa using h)) (hx h0)
        | succ j' => exact congrArg _ (ih hxs j j' e (by simpa using h) (by simpa using h'))
  exact key items O.nd
theorem law_body {w : World} {mean : ExcName → Option Value} {mg mb : Str → Option Value} {a : Addr} {ccd : Value} {base h₀ : Heap} {L sa : Addr} {m : Str → Option Value} {s : Shared} {Q : Flow → Shared → Prop} {vs : List Value} {ns : List Int} {E : Value → Shared → Prop}
    (B : Below callerA base [] h₀) (F : Fr h₀ L s.heap m) (hs : m (Str.ofString "script") = some (.ref sa)) (X : (hd10.heap_39 w.params).In h₀) (T : Top topProg loose10 mean mg mb h₀) {h9 : Heap} (hT9 : TabsAt [(138, 134)] h9) (C : CodeHd base 138 134) (N : News h₀ L s.heap [(134, tabObj #[])])
    (hL : h₀.IsList sa vs.toArray) (hI : IntsAre vs ns) (hlen : ¬ (63 : Int) < ns.length) (hE : PassesOwn (model prog10 w) (callerA.deeper (lawE L a ccd)) (lawE L a ccd) E)
    (fin : ∀ m' h tk, Fr h₀ L h m' → GrownAt 134 h → Q (.ret (.bool true)) { s with heap := h, toks := tk }) :
    wpAny (model prog10 w) (callerA.deeper (lawE L a ccd)) (execs lawB (lawE L a ccd)) Q E s := by
  have F' : Fr h₀ L s.heap (fun y => if y = Str.ofString "script" then some (.ref sa) else m y) := by
    have e : m = fun y => if y = Str.ofString "script" then some (.ref sa) else m y := by
      refine funext fun y => ?_
      by_cases c : y = Str.ofString "script"
      · subst c; rw [if_pos rfl]; exact hs
      · rw [if_neg c]
    rw [← e]
    exact F
  rw [lawB_eq10]
  refine wpAny_execs_append (head0 B F' X T C N hL hI hlen fun it items tw mt ni pl p0 h1 tk1 F1 N1 O n1 n2 n3 n4 n5 n6 => ?_)
  dsimp only
  refine wpAny_execs_append (head2 (s := { s with heap := h1, toks := tk1 }) B F1 X T hT9 C N1 O n1 n2 n3 n4 n5 n6 fun S tab t0 h2 tk2 m2 e1 e2 e3 K H2 he2 F2 N2 => ?_)
  dsimp only
  subst e1 e2 e3
  obtain ⟨dp, un, gd, e, hdp, hun⟩ := lawA_eq (L := L) (a := a) (ccd := ccd)
  rw [e] at hE ⊢
  refine wpAny_execs_cons (law_while (s₁ := { s with heap := h2, toks := tk2 }) B X T C K hdp hun ?_ (by have := O.lo; omega) (gt := (134, tabObj tab)) (nd_of O) ?_ hE (n₀ := 1 + (S.items.length + 1 - 0)) ⟨h2, tk2, m2, 0, p0, 0, t0, false, (134, tabObj tab) :: tw, rfl, F2, H2, he2, N2, neCons (Nat.ne_of_lt n3) n6, ?_, .head _, rfl⟩ fun h3 tk3 m3 F3 hg3 => ?_)
  · unfold opens
    have := O.ops
    simpa using this
  · intro j e he z
    obtain ⟨oe, hm, _⟩ := (item_ok O he : ∃ oe, (e, oe) ∈ tw ∧ Good w.params oe e)
    exact n5 _ hm z.symm
  · intro j e _ he
    obtain ⟨oe, hm, G⟩ := (item_ok O he : ∃ oe, (e, oe) ∈ tw ∧ Good w.params oe e)
    exact ⟨oe, .tail _ hm, G⟩
  · dsimp only
    exact wpAny_execs_cons (law_ret (fin m3 h3 tk3 F3 ⟨tab, hg3⟩))
end Mine
end

-- Join10
section
theorem Mine.offJoin10 : True := by
  w_top off
  trivial
open PySem PySem.W PyProof.Rows PySem.Spec PySem.Calls
set_option linter.unusedVariables false
namespace Mine
open Mine10
set_option maxRecDepth 100000 in
set_option maxHeartbeats 8000000 in
theorem whole10 : PySem.Challenge.rw_dm0148_10.Holds := by
  refine hd10 ?_
  w_strict (k_go0)
  rename Below _ _ _ _ => KB
  rename Fr _ _ _ _ => KF
  rename News _ _ _ _ => KN
  rename IntsAre _ _ => hI
  rename ¬ _ => hcond
  rename Top topProg _ _ _ _ _ => KT
  rename (hd10.heap_39 _).In _ => KX
  rename _ = #[] => hg
  with_unfolding_all refine law_body KB KF rfl KX KT hT9 codeHd KN lifted hI hcond ?_ ?_
  · with_unfolding_all exact PassesOwn.leaving
  · intro m' h tk F G
    refine ⟨goodW_bool F hg (raisesW_false ?_) ?_, G, trivial⟩
    · wrow_none_raised
    · wrow_post
end Mine
end

theorem PySem.Challenge.cw_dm0148_10_holds : PySem.Challenge.rw_dm0148_10.Holds :=
  Mine.whole10

import PyProof.Rows.All
import Wide.All
import OpenK.AllK
import Wide.FinOn
import PySem.Challenge.RW_dm0148_06
set_option Elab.async false

-- Gam
section
open PySem PySem.W PyProof.Rows PySem.Calls
set_option linter.unusedVariables false
namespace Mine
/-- the same as wpAny, at one given context -/
def wpG {α : Type} (M : Model) (Γ : Ctx) (t : Sem α) (Q : α → Shared → Prop) (E : Value → Shared → Prop) (s : Shared) : Prop := ∀ p, Sem.wp M Γ t (fun a _ s' => Q a s') (fun e _ s' => E e s') p s
def codeG (M : Model) (Γ : Ctx) (R : Result → Shared → Prop) (s : Shared) : Prop := ∀ p, wpCode M Γ R p s
section
variable {α β : Type} {M : Model} {Γ : Ctx} {A : Around} {E : Value → Shared → Prop} {s : Shared}
theorem wpG_any {t : Sem α} {Q : α → Shared → Prop} (hΓ : Γ.In A) (h : wpAny M A t Q E s) : wpG M Γ t Q E s := fun p => h Γ p hΓ
theorem wpG_mono {t : Sem α} {Q Q' : α → Shared → Prop} {E' : Value → Shared → Prop} (h : wpG M Γ t Q E s) (hq : ∀ a s', Q a s' → Q' a s') (he : ∀ e s', E e s' → E' e s') : wpG M Γ t Q' E' s :=
  fun p => Sem.wp_mono M Γ t (fun a _ s' => hq a s') (fun e _ s' => he e s') p s (h p)
theorem wpG_pure {a : α} {Q : α → Shared → Prop} (h : Q a s) : wpG M Γ (pure a) Q E s := fun _ => h
theorem wpG_bind {m : Sem α} {f : α → Sem β} {Q : β → Shared → Prop} (h : wpG M Γ m (fun a s' => wpG M Γ (f a) Q E s') E s) : wpG M Γ (m >>= f) Q E s := fun p => by
  rw [Sem.wp_bind']
  exact Sem.wp_mono M Γ m (fun a p' s' h' => h' p') (fun _ _ _ h' => h') p s (h p)
theorem wpG_holding {vs : List Value} {m : Sem α} {Q : α → Shared → Prop} (h : wpG M Γ m Q E s) : wpG M Γ (holding vs m) Q E s := fun p => by rw [Sem.wp_holding]; exact h p
theorem wpG_standAt {p' : Pos} {Q : Unit → Shared → Prop} (h : Q () s) : wpG M Γ (standAt p') Q E s := fun p => by rw [Sem.wp_cmd_standAt]; exact h
theorem wpG_stack {Q : List (Code × Pos) → Shared → Prop} (h : ∀ p, Q ((Γ.code, p) :: Γ.below) s) : wpG M Γ stack Q E s := fun p => by
  unfold stack
  rw [Sem.wp_stack]
  exact h p
theorem wpG_call {f : Value} {pos : List Value} {kw : List (Str × Value)} {Q : Value → Shared → Prop}
    (h : ∀ p, codeG M (Γ.enter (.call f ⟨pos, kw⟩) none p) (fun r s' => match r with | .ok (.ret v) => Q v s' | .ok _ => False | .error e => E e s') s) : wpG M Γ (PySem.call f pos kw) Q E s := fun p => by
  show Sem.wp M Γ (runValue (.call f ⟨pos, kw⟩)) _ _ p s
  rw [Sem.wp_runValue]
  exact h p p
theorem codeG_tree {R : Result → Shared → Prop} (h : wpG M Γ (M.den Γ.code) (fun fin s' => match fin with | .done f => R (.ok f) s' | .again c' => c'.quiet = true ∧ codeG M (Γ.goto c') R s') (fun e s' => R (.error e) s') s) : codeG M Γ R s := fun p => by
  rw [wpCode_iff_wp]
  refine Sem.wp_mono M Γ _ (fun fin p' s' h' => ?_) (fun _ _ _ h' => h') p s (h p)
  cases fin with
  | done f => exact h'
  | again c' => exact ⟨h'.1, h'.2 p'⟩
theorem codeG_mono {R R' : Result → Shared → Prop} (h : codeG M Γ R s) (hr : ∀ r s', R r s' → R' r s') : codeG M Γ R' s := fun p => let ⟨r, s', a, b⟩ := h p; ⟨r, s', a, hr r s' b⟩
theorem wpG_onRaise {m : Sem α} {k : Value → Sem Unit} {Q : α → Shared → Prop} (h : wpG M Γ m Q (fun _ _ => False) s) : wpG M Γ (m.onRaise k) Q E s := fun p => by
  rw [Sem.wp_onRaise]
  exact Sem.wp_mono M Γ m (fun _ _ _ h' => h') (fun _ _ _ h' => h'.elim) p s (h p)
end
/-- the context that a claim's call has -/
def Γ₀ : Ctx := ⟨.builtin "claim.caller" {}, none, none, [], none⟩

theorem thread_ends_here {prog : Program} {w : World} {t : Sem Fin} {s : Shared} {R : Result → Shared → Prop} (hreg : s.asleep)
    (h : wpG (model prog w) Γ₀ t (fun fin s' => ∃ f, fin = .done f ∧ (R (.ok f) s' ∧ leftWithCleanup s'.gens = false)) (fun e s' => R (.error e) s' ∧ leftWithCleanup s'.gens = false) s) :
    ∃ n r s' s'', runN (denote table) prog w n s ⟨t, .builtin "claim.caller" {}, default, []⟩ = .halted (outcomeOf r) s' ∧
      schedN (denote table) prog w n (.single s ⟨t, .builtin "claim.caller" {}, default, []⟩) = .halted (outcomeOf r) s' ∧ s'.forget = s''.forget ∧ R r s'' := by
  have h' := Sem.wp_mono _ _ _ (post' := Sem.finPost (model prog w) Γ₀ fun r s' => R r s' ∧ leftWithCleanup s'.gens = false) (fun fin p' s' h' => by obtain ⟨f, rfl, hf⟩ := h'; exact hf) (fun _ _ _ h' => h') default s (h default)
  obtain ⟨n, r, s₁, s₂, hs, hn, hfo, hR⟩ := wp_halts_full (M := model prog w) (R := R) hreg h'
  exact ⟨n, r, s₂, s₁, hn, hs, hfo, hR⟩

/-- a call from the claim's caller, at the context that it really has -/
theorem callFrom_here {c : ClaimW} {tree : List Value → Sem Fin} {w : World} {s : Shared} {free : Addr → Prop} {gens : Prop} {kept : Heap → Prop} (hz : s.asleep) (hgens : s.gens = #[])
    (hspec : ∀ args, c.pre args = true → WData.layableAll args = true → ∀ ord : List DictEntry → List DictEntry, (∀ l, (ord l).Perm l) →
      ∃ vs s₁, layAllW c.records (classAt s.heap) w.params ord args s = some (vs, s₁) ∧
        wpG (model c.prog w) Γ₀ (tree vs) (fun fin s' => ∃ f, fin = .done f ∧ (c.Ends s args vs s₁ (.ok f) s' ∧ s'.os = s.os ∧ AllBare s'.gens ∧ kept s'.heap))
          (fun e s' => c.Ends s args vs s₁ (.error e) s' ∧ s'.os = s.os ∧ AllBare s'.gens ∧ kept s'.heap) s₁) :
    c.CallFrom (fun vs => ⟨tree vs, .builtin "claim.caller" {}, default, []⟩) w free gens kept s := by
  intro args hpre hlay ord hord
  obtain ⟨vs, s₁, hlaid, hcode⟩ := hspec args hpre hlay ord hord
  have hal := layAllW_rest _ _ _ hlaid
  obtain ⟨k, r, s', s'', hrun, hsched, hfo, hcase, hos, hkp⟩ := thread_ends_here (prog := c.prog) (w := w) (t := tree vs) (s := s₁) (R := fun r s' => c.Ends s args vs s₁ r s' ∧ s'.os = s.os ∧ kept s'.heap)
    (Shared.asleep_of_life hal.2.2.2 hz)
    (wpG_mono hcode (fun fin s' ⟨f, e, h1, h2, h3, h4⟩ => ⟨f, e, ⟨h1, h2, h4⟩, leftWithCleanup_false_of_bare h3⟩) fun e s' ⟨h1, h2, h3, h4⟩ => ⟨⟨h1, h2, h4⟩, leftWithCleanup_false_of_bare h3⟩)
  obtain ⟨eh, _, _, eo, _⟩ := Shared.forget_eq hfo
  have hlife : s'.heap.life = s.heap.life := (runN_life _ _ _ hrun).trans hal.2.2.2
  refine ⟨vs, s₁, hlaid, k, _, s', hsched, ?_, (fun _ i x hx => by rw [hgens] at hx; simp at hx), by rw [eh]; exact hkp, by rw [hlife], Shared.rest_eq (eo.trans hos)⟩
  rcases hcase.congr eh with ⟨v, rfl, d1, d2, d3, d4, d5⟩ | ⟨e, ob, cls, rfl, d1, d2, d3, d4, d5⟩
  · exact .inl ⟨v, rfl, d1, d2, d3, fun b o y _ => d4 b o y, d5⟩
  · exact .inr ⟨e, ob, cls, rfl, d1, d2, d3, d4, fun b o y _ => d5 b o y⟩

/-- what the walk has to show: the call at the claim's own context -/
abbrev WalkG (q : Program) (loose : List Str) (XP : (Str → Option Value) → Heap → Prop) (YP : World → Heap → Prop) (r : RowW) (d : DefRec) (kwd : List (Str × Expr)) : Prop :=
  ∀ (w : World) (s₀ s₁ : Shared) (mg mb : Str → Option Value), Ground q loose r.records XP w s₀ mg mb s₁.heap → YP w s₁.heap → ∀ (a : Addr) (o : Obj) (pm cd doc dV kV : Value), s₁.heap.get? a = some o →
    o.data = .func { docDef d.name d.params d.body d.scope pm cd doc with defaults := dV, kwdefaults := kV } → s₁.heap.CodeRec cd d.name → Dflts mg s₁.heap d.params kwd dV kV → mg d.name = some (.ref a) → s₁.gens = #[] →
    ∀ (args : List WData) (vals : List Value) (as : List Addr), r.claim.pre args = true → WData.layableAll args = true → ReadsAllW r.records (classAt s₀.heap) s₁.heap vals args as → WellAll w.params s₁.heap vals args → (∀ a ∈ as, (a == sysModules) = false) →
      wpG (model r.prog w) Γ₀ (PySem.call (.ref a) vals) (fun v s' => GoodWG r.claim (classAt s₀.heap) (ExcName.means s₀.heap) args s₁ (.ok (.ret v)) s')
        (fun e s' => GoodWG r.claim (classAt s₀.heap) (ExcName.means s₀.heap) args s₁ (.error e) s') s₁

theorem PySem.W.holds_open {r : OpenRow} {q : Program} {loose : List Str} {Xt : Shared → Bool} {XP : (Str → Option Value) → Heap → Prop} {α : Type} {Yf : Shared → α} {Ya : World → α} {YP : World → Heap → Prop} {d : DefRec} {kwd : List (Str × Expr)} {N : Nat}
    (left : LeftO r.prog q loose Xt Yf Ya N) (hY : ∀ w s, Yf s = Ya w → YP w s.heap) (hYk : ∀ w h h', YP w h → (∀ b o, h.get? b = some o → h'.get? b = some o) → YP w h')
    (hX : ∀ s, Xt s = true → XP (s.heap.nsMap mainGlobals) s.heap) (hXk : ∀ mg h h', XP mg h → (∀ b o, h.get? b = some o → h'.get? b = some o) → XP mg h')
    (hdef : defOf q r.name = some (d, kwd)) (hp : r.prog.theDef r.name = some (d.params, d.body, d.scope)) (hk : kwWritten? d.params.kwonlyargs d.params.kw_defaults = some kwd) (hRf : ∀ s, Xt s = true → RecFacts r.records s.heap) (hwr : (!r.writes || r.records.isEmpty) = true)
    (k1 : r.wellSaid = true) (ok : (chainsOk q && opensWell r.prog && (frees r.toRowW && r.within.isEmpty)) = true) (hb : r.prog.bare) (hw : r.toRowW.promised)
    (call : WalkG q loose XP YP r.toRowW d kwd) : r.Holds := by
  obtain ⟨ok, k5⟩ := Bool.and_eq_true_iff.mp ok
  obtain ⟨hch, o1⟩ := Bool.and_eq_true_iff.mp ok
  obtain ⟨k5, k6⟩ := Bool.and_eq_true_iff.mp k5
  obtain ⟨hsame, hu, ha, hap, hm⟩ := frees_parts k5
  refine ⟨k1, hw, ⟨hb, o1, by show r.toRowW.makers.map _ = []; rw [hm]; rfl⟩, hw.witness, fun w => ⟨(left.behind hX hch w).1, fun s' hs' => ?_⟩⟩
  obtain ⟨s₀, hf, hg0, s, hT, hz, hgens, hg, GR, y⟩ := (left.behind (XP := fun mg h => XP mg h ∧ RecFacts r.records h) (fun s hs => ⟨hX s hs, hRf s hs⟩) hch w).2 s' hs'
  have RF := GR.X.2
  have G0 : Ground q loose [] XP w s (s.heap.nsMap mainGlobals) (s.heap.nsMap builtinsNs) s.heap := ⟨GR.T, GR.B, GR.D, GR.TE, GR.TD, GR.W, GR.X.1, GR.cls, GR.has, GR.apart, GR.once, GR.K⟩
  refine ⟨s₀, hf, hg0, s, hT, ?_, RF.1, RF.2.1, ?_⟩
  · intro n hn
    obtain rfl : n = r.name := by split at hn <;> simp_all
    exact pinned_of_view hg G0 hdef hp hk
  have hg1 : s.gens = #[] := Array.eq_empty_of_size_eq_zero (beq_iff_eq.mp hgens)
  have G : Ground q loose r.records XP w s _ _ s.heap := RF.ground G0
  refine callFrom_here (c := r.toRowW.claim) hz hg1 fun args hpre hlay ord hord => ?_
  obtain ⟨⟨vs, s₁⟩, hlaid⟩ := Option.isSome_iff_exists.mp (layAllW_isSome (P := w.params) (ord := ord) G.has args r.toRowW.args s (pre_splitW hpre).1)
  have keeps := layAllW_keeps _ _ _ hlaid
  have hal := layAllW_rest _ _ _ hlaid
  obtain ⟨as, hrd, hin, hold⟩ := reads_layAllW hord _ _ _ hlaid hlay s₁.heap (fun _ _ e => e)
  have L : Laid r.records w s s₁ args vs as := ⟨⟨ord, hord, hlaid⟩, hrd, hin, hold, keeps, hal.1.trans hg1, hal.2.2.1⟩
  have G₁ := G.keeps hXk keeps
  obtain ⟨a, o, pm, cd, doc, dV, kV, h1, h2, h3, h4, h5⟩ := G₁.fn hdef
  have h := call w s s₁ _ _ G₁ (hYk _ _ _ (hY w s y) keeps) a o pm cd doc dV kV h2 h3 h4 h5 (defOf_name hdef ▸ h1) L.gens args vs as hpre hlay L.reads L.well (L.low G.low)
  have hi := ident_freeW hu ha hap
  have hwi : r.toRowW.claim.within = [] := List.isEmpty_iff.mp k6
  refine ⟨vs, s₁, hlaid, wpG_bind (wpG_any caller_in (wpAny_nsGet G₁.T.g ?_))⟩
  rw [h1]
  refine wpG_bind (wpG_mono h (fun v s' g => wpG_pure ⟨_, rfl, ?_⟩) fun e s' g => ?_)
  · have z := g.laid (c := r.toRowW.claim) hsame hwi hi L
    exact ⟨z.1, z.2.1, z.2.2, fun q => ⟨namesKept_of hT hg _ keeps g.2.1.old, noTable hwr q⟩⟩
  · have z := g.laid (c := r.toRowW.claim) hsame hwi hi L
    exact ⟨z.1, z.2.1, z.2.2, fun q => ⟨namesKept_of hT hg _ keeps g.2.1.old, noTable hwr q⟩⟩
end Mine
end

-- Top06
section
open PySem PySem.W PyProof.Rows
namespace Mine
set_option maxRecDepth 100000 in
set_option maxHeartbeats 8000000 in
open_top hd06 for PySem.Challenge.rw_dm0148_06
end Mine
end

-- Exc
section
open PySem PySem.W PyProof.Rows PySem.Spec PySem.Calls
set_option maxRecDepth 100000
namespace Mine

/-- an exception of an own class, as it is born: its arguments' tuple at `tx` -/
abbrev excObj (C tx : Addr) : Obj := { cls := .ref C, data := .fields #[.ref tx, .none, .none, .none, .bool false, .none] }
abbrev tupObj (vs : List Value) : Obj := { cls := .type "tuple", data := .seq vs.toArray }

section
variable {prog : Program} {w : World} {A : Around} {E : Value → Shared → Prop} {K : Frag} {C : Addr} {h : Heap} {g : Array GenState} {d : Drawn} {t : Nat} {os : OsState}
variable {nm q : Str} {N : Addr} {bs bm bmB : List Value} {hdct : Bool} {sn : List Str} {sub : List Value} {ab : Bool} {col : Option Bool} {dd : Option Addr} {k0 k1 k2 k3 k5 : Option Value} {B newId initId : String}

theorem exc_type_call (F : ExcBaseFacts B newId initId bmB) (T : OwnTail h bmB bm) {rest : List Value} {fI : Addr} {Q : Fin → Shared → Prop} (X : K.In h)
    (hC : K.lookup C = some (excClassObj nm q C N bs bm hdct sn sub ab col dd k0 k1 k2 k3 k5 newId)) (hi : findIn K (.ref C) "__init__" = some (some (.ref fI))) (hf : typeIn K (.ref fI) = some (.type "function"))
    (hq : codeAny (model prog w) A (.call (.ref fI) ⟨.ref (h.objs.size + 1) :: rest, []⟩) (fun r s' => match r with | .ok (.ret v) => v = .none ∧ Q (.done (.ret (.ref (h.objs.size + 1)))) s' | .ok _ => False | .error e => E e s')
      ⟨(h.push (tupObj rest)).push (excObj C h.objs.size), g, d, t, os⟩) (hrest : rest.length ≤ sizeLine := by size_fits) :
    wpAny (model prog w) A (Builtin.«type.__call__» ⟨.ref C :: rest, []⟩) Q E ⟨h, g, d, t, os⟩ := by
  have hC0 := X _ _ hC
  repeat (first | with_reducible refine wpAny_loadPart_at hC0 ?_ | with_reducible refine wpAny_madeBy_exc hC0 ?_ | wp_step)
  refine codeAny_call_builtin_code (Code.quiet_builtin _ F.quiet) (wpAny_check_new_subT F T hC0 ?_)
  refine codeAny_exc_new_subT F T hC0 ?_ hrest
  show wpAny _ _ _ _ _ _
  have kp : ∀ b o, h.get? b = some o → ((h.push (tupObj rest)).push (excObj C h.objs.size)).get? b = some o := fun b o e => Heap.get?_push_of_some _ (Heap.get?_push_of_some _ e)
  have X1 := X.keeps kp
  have hC₁ := X1 _ _ hC
  have hget : ((h.push (tupObj rest)).push (excObj C h.objs.size)).get? (h.objs.size + 1) = some (excObj C h.objs.size) := by heap_get
  have hcC : (Value.ref C :: bm).contains (.ref C) = true := by simp
  have i1 := looks_findIn (M := model prog w) X1 hi
  have b1 := bind_fn (M := model prog w) X1 (.ref (h.objs.size + 1)) hf
  unfold isInstance
  repeat (first | with_reducible refine wpAny_loadPart_at hget ?_ | (with_reducible refine wpAny_isSubtype_exc hC₁ ?_; rw [hcC]) | wp_step)
  show wpAny _ _ (typeLookup (.ref C) _) _ _ _
  refine i1.at ?_
  refine wpAny_holding (wpAny_bind (b1.at (wpAny_bind (wpAny_call (codeAny_mono hq fun r s' z => ?_)))))
  rcases r with e | (v | _ | _ | _) <;> first | exact z | exact z.elim | skip
  obtain ⟨rfl, z⟩ := z
  exact wpAny_pure (wpAny_pure z)

theorem exc_call (F : ExcBaseFacts B newId initId bmB) (T : OwnTail h bmB bm) {rest : List Value} {fI : Addr} {R : Result → Shared → Prop} (X : K.In h)
    (hC : K.lookup C = some (excClassObj nm q C N bs bm hdct sn sub ab col dd k0 k1 k2 k3 k5 newId)) (hi : findIn K (.ref C) "__init__" = some (some (.ref fI))) (hf : typeIn K (.ref fI) = some (.type "function"))
    (hq : codeAny (model prog w) (A.under (.builtin "type.__call__" ⟨.ref C :: rest, []⟩)) (.call (.ref fI) ⟨.ref (h.objs.size + 1) :: rest, []⟩) (InitBack (h.objs.size + 1) R)
      ⟨(h.push (tupObj rest)).push (excObj C h.objs.size), g, d, t, os⟩) (hrest : rest.length ≤ sizeLine := by size_fits) :
    codeAny (model prog w) A (.call (.ref C) ⟨rest, []⟩) R ⟨h, g, d, t, os⟩ := by
  have hC0 := X _ _ hC
  have f1 := tc_lookup
  have f2 := tc_bind (.ref C)
  have hT : (⟨h, g, d, t, os⟩ : Shared).TypeIs (.ref C) "type" := ⟨_, hC0, rfl⟩
  refine codeAny_of_tree ?_
  show wpAny _ _ (callAny (.ref C) _) _ _ _
  repeat (any_goals (first | assumption | with_reducible refine wpAny_loadPart_at hC0 ?_ | wp_step))
  refine ⟨rfl, ?_⟩
  refine codeAny_call_builtin_at (Code.quiet_builtin _ (by decide +kernel)) entry_typeCall (wpAny_check_type_call_sub hC0 (exc_type_call (hrest := hrest) F T X hC hi hf (codeAny_mono hq fun r s' z => ?_)))
  rcases r with e | (v | _ | _ | _) <;> exact z
end

section
variable {prog : Program} {w : World} {A : Around} {E : Value → Shared → Prop} {s : Shared} {K : Frag} {C L : Addr} {h₀ : Heap} {m : Str → Option Value} {news : List (Addr × Obj)}
variable {nm q : Str} {N : Addr} {bs bm bmB : List Value} {hdct : Bool} {sn : List Str} {sub : List Value} {ab : Bool} {col : Option Bool} {dd : Option Addr} {k0 k1 k2 k3 k5 : Option Value} {B newId initId : String} {Q : Value → Shared → Prop}

theorem exc_make (Fb : ExcBaseFacts B newId initId bmB) {rest : List Value} {fI : Addr} (F : Fr h₀ L s.heap m) (X₀ : K.In h₀) (Nw : News h₀ L s.heap news) (T : OwnTail h₀ bmB bm)
    (hC : K.lookup C = some (excClassObj nm q C N bs bm hdct sn sub ab col dd k0 k1 k2 k3 k5 newId)) (hi : findIn K (.ref C) "__init__" = some (some (.ref fI))) (hf : typeIn K (.ref fI) = some (.type "function"))
    (hrest : rest.length ≤ sizeLine)
    (h : ∀ x tx h', Fr h₀ L h' m → News h₀ L h' ((x, excObj C tx) :: (tx, tupObj rest) :: news) → (∀ p ∈ news, p.1 < tx) → tx < x →
      codeAny (model prog w) (A.under (.builtin "type.__call__" ⟨.ref C :: rest, []⟩)) (.call (.ref fI) ⟨.ref x :: rest, []⟩) (InitBack x fun r s' => match r with | .ok (.ret v) => Q v s' | .ok _ => False | .error e => E e s') { s with heap := h' }) :
    wpAny (model prog w) A (call (.ref C) rest) Q E s := by
  obtain ⟨hh, g, d, t, os⟩ := s
  refine wpAny_call (exc_call Fb (T.keeps F.keep) (X₀.keeps F.keep) hC hi hf (h _ hh.objs.size _ ((F.push _).push _) ?_ (fun p hp => Heap.lt_size (Nw p hp).1) (Nat.lt_succ_self _)) hrest)
  have := (Nw.push F (tupObj rest)).push (F.push _) (excObj C hh.objs.size)
  rwa [Heap.size_push] at this
end
end Mine
end

-- Exc2
section
open PySem PySem.W PyProof.Rows PySem.Spec PySem.Calls Builtin Builtin.ObjectAttr Builtin.Getset_descriptor Builtin.BaseException
set_option maxRecDepth 100000
namespace Mine

theorem gs_entry : entryFor table "getset_descriptor.__set__" = some Builtin.«getset_descriptor.__set__» := entryFor_of_tree (by kernel_rfl)
theorem gs_args (a b c : Value) : argsOk "getset_descriptor.__set__" ⟨[a, b, c], []⟩ := by unfold argsOk; kernel_rfl
theorem as_entry : entryFor table "BaseException.args#set" = some Builtin.«BaseException.args#set» := entryFor_of_tree (by kernel_rfl)
theorem args_owner : descrOwnerAndName "BaseException.args" = ("BaseException", "args") := by decide +kernel

/-- what a store into an exception of an own class asks of the class -/
structure ExcSet (K : Frag) (C : Addr) (cd : ClassData) : Prop where
  cls : clsIn K C = some cd
  refuse : ∀ self : Value, refuseLoop self "__setattr__" cd.mro = pure ()
  top : cd.mro.contains (.type "object") = true
  exc : cd.mro.contains (.type "BaseException") = true
  ne : cd.mro.isEmpty = false
  dict : cd.hasDict = true
  set : findIn K (.ref C) "__setattr__" = some (some (.builtin "object.__setattr__"))
  args : takerIn K C "args" = some (some (.builtin "BaseException.args"))

section
variable {prog : Program} {w : World} {A : Around} {R : Result → Shared → Prop} {E : Value → Shared → Prop} {s : Shared} {K : Frag} {x C L : Addr} {h₀ : Heap} {m : Str → Option Value} {news news' : List (Addr × Obj)} {cd : ClassData}

theorem exc_osa_open {ox : Obj} {od : Option Obj} {name : Str} {tk : Tok} {v : Value} {r : Option Value} (X : K.In s.heap) (I : InstAt s.heap x ox C od) (S : ExcSet K C cd) (ht : takerIn K C name = some r)
    (h : ∀ b, wpAny (model prog w) A.in1 (match r with | some a => setByDescriptor a (.ref x) v | none => storeInOwnDict (.ref x) (.ref C) (.str name tk) name v b)
      (fun fin s' => match fin with | .done f => R (.ok f) s' | .again c' => c'.quiet = true ∧ codeAny (model prog w) A c' R s') (fun e s' => R (.error e) s') s) :
    codeAny (model prog w) A (.call (.builtin "object.__setattr__") ⟨[.ref x, .str name tk, v], []⟩) R s := by
  have SF := PySem.F.store_object
  have sub : Looks (model prog w) s.heap (isInstance (.ref x) (.type "object")) true := I.type.andThen (looks_mroIn X (by unfold mroIn; rw [S.cls, Option.bind_some, if_neg (by rw [S.ne]; decide), S.top]))
  refine codeAny_call_builtin SF.slot.plain SF.entry (@check_slot (model prog w) _ _ s "object.__setattr__" "object" "__setattr__" (.ref x) [.str name tk, v] [] _ SF.kind SF.split sub (SF.args (.ref x) (.str name tk) v) ?_)
  obtain ⟨attr, ha, hr⟩ := Option.bind_eq_some_iff.mp ht
  have hm : Looks (model prog w) s.heap (mroOf (.ref C)) cd.mro := (looks_clsIn X S.cls).andThen .now
  have L3 : Looks (model prog w) s.heap (storeTaker? attr) r := by
    cases attr with
    | none => cases hr; exact .now
    | some a =>
      obtain ⟨b, hb, rfl⟩ := Option.map_eq_some_iff.mp hr
      refine (looks_takesIn X hb).andThen ?_
      cases b <;> exact .now
  rw [osa_eq, refuse_eq]
  refine wpAny_bind (wpAny_bind (I.type.here (wpAny_bind (hm.here ?_))))
  rw [S.refuse]
  refine wpAny_pure (wpAny_bind (I.type.here (wpAny_bind ((looks_findIn X ha).here (wpAny_bind (L3.here ?_))))))
  exact h _

/-- `self.args = t`, t an exact tuple -/
theorem exc_set_args {ox ox' : Obj} {od : Option Obj} {ty : Addr} {items : Array Value} {vs : Array Value} {a0 : Value} {Q : Unit → Shared → Prop} (F : Fr h₀ L s.heap m) (X₀ : K.In h₀) (N : News h₀ L s.heap news) (I : InstAt s.heap x ox C od) (S : ExcSet K C cd)
    (hd : ox.data = .fields vs) (h0 : vs[0]? = some a0) (ht : IsTup s.heap ty items) (e : Obj.mapFields (·.setIfInBounds 0 (.ref ty)) ox = ox') (U : Upd x ox ox' news news')
    (h : ∀ h', Fr h₀ L h' m → News h₀ L h' news' → Q () { s with heap := h', toks := s.toks + 1 }) :
    wpAny (model prog w) A (setAttr (.ref x) "args" (.ref ty)) Q E s := by
  obtain ⟨pre, post, rfl, rfl, p1, p2⟩ := U.split
  have X := X₀.keeps F.keep
  have hf : ox'.isFreed = false := by
    obtain ⟨c, dd, dt, sl⟩ := ox
    dsimp only at hd
    subst hd
    rw [← e]; rfl
  obtain ⟨U1, U2⟩ := news_upd (f := Obj.mapFields (·.setIfInBounds 0 (.ref ty))) F N p1 p2 e hf
  have hlt : 0 < vs.size := (Array.getElem?_eq_some_iff.mp h0).1
  refine set_plain X I S.set (exc_osa_open (s := { s with toks := s.toks + 1 }) X I S S.args fun _ => ?_)
  have hT5 : ∀ s' : Shared, s'.TypeIs (.builtin "BaseException.args") "getset_descriptor" := fun _ => PySem.F.typeOf_bexc_args
  refine wpAny_bind (wpAny_rule (wpAny_bind (wpAny_holding ?_)))
  refine wpAny_callSpecial?_slot (T := "getset_descriptor") (name := Str.ofString "__set__") (id := "getset_descriptor.__set__") (hT5 _) PySem.F.slot_gs_set ?_
  refine wpAny_call ?_
  refine codeAny_call_builtin PySem.F.slot_gs_set.plain gs_entry ?_
  refine PySem.F.slot_gs_set.check _ _ _ _ _ _ _ _ (hT5 _) (gs_args _ _ _) ?_
  unfold Builtin.«getset_descriptor.__set__» descrSet descrStoreThrough descrCheckInstance descrNameAndClass isInstance descrItself
  simp only [args_owner]
  have L0 := I.type (M := model prog w)
  have L1 : Looks (model prog w) s.heap (isSubtype (.ref C) (.type "BaseException")) true := looks_mroIn X (by unfold mroIn; rw [S.cls, Option.bind_some, if_neg (by rw [S.ne]; decide), S.exc])
  obtain ⟨hh, g, d, t, os⟩ := s
  dsimp only at L0 L1
  repeat lk
  refine ⟨Code.quiet_builtin _ (by decide +kernel), codeAny_builtin as_entry ?_⟩
  unfold Builtin.«BaseException.args#set» bexcPut
  refine wpAny_bind (call_tuple_tup ht ?_)
  refine wpAny_bind (wpAny_bind (wpAny_field I.at_ hd h0 (wpAny_bind (wpAny_setField I.at_ hd hlt ?_))))
  have fin := h _ U1 U2
  cases a0 <;> first | exact wpAny_letGo (wpAny_pure (wpAny_pure fin)) | exact wpAny_pure (wpAny_pure (wpAny_pure fin))

/-- the first attribute stored into an exception of an own class: its dict is made -/
theorem exc_set_first {vs : Array Value} {sl : Array (Option Value)} {name : Str} {v : Value} {Q : Unit → Shared → Prop} {news' : Addr → List (Addr × Obj)} (F : Fr h₀ L s.heap m) (X₀ : K.In h₀) (N : News h₀ L s.heap news) (S : ExcSet K C cd)
    (ht : takerIn K C name = some none)
    (U : ∀ dx, Upd x ⟨.ref C, none, .fields vs, sl⟩ ⟨.ref C, some dx, .fields vs, sl⟩ news (news' dx))
    (h : ∀ dx h', Fr h₀ L h' m → News h₀ L h' ((dx, dictOf [⟨PyData.keyHash w.params name, .str name (s.toks + 1), v⟩] 1) :: news' dx) → (∀ p ∈ news, p.1 < dx) → Q () { s with heap := h', toks := s.toks + 2 }) :
    wpAny (model prog w) A (setAttr (.ref x) name v) Q E s := by
  have X := X₀.keeps F.keep
  obtain ⟨hh, g, d, t, os⟩ := s
  dsimp only at F N X h
  obtain ⟨pre, post, rfl, e2, p1, p2⟩ := (U hh.objs.size).split
  have hx0 : hh.get? x = some ⟨.ref C, none, .fields vs, sl⟩ := (N (x, _) (by simp)).1
  have hlt : ∀ p ∈ pre ++ (x, (⟨.ref C, none, .fields vs, sl⟩ : Obj)) :: post, p.1 < hh.objs.size := fun p hp => Heap.lt_size (N p hp).1
  have hxn : hh.objs.size ≠ x := (Nat.ne_of_lt (Heap.lt_size hx0)).symm
  have I : InstAt hh x ⟨.ref C, none, .fields vs, sl⟩ C none := ⟨hx0, rfl, rfl, trivial⟩
  have F1 := F.push emptyDict
  have N1 : News h₀ L (hh.push emptyDict) (((hh.objs.size, emptyDict) :: pre) ++ (x, ⟨.ref C, none, .fields vs, sl⟩) :: post) := N.push F emptyDict
  obtain ⟨F2, N2⟩ := news_upd (f := fun o => { o with dict := some hh.objs.size }) (o' := ⟨.ref C, some hh.objs.size, .fields vs, sl⟩) F1 N1
    (fun p hp => by rcases List.mem_cons.mp hp with rfl | hp; exact hxn; exact p1 p hp) p2 rfl rfl
  have N2' : News h₀ L _ ([] ++ (hh.objs.size, emptyDict) :: (pre ++ (x, ⟨.ref C, some hh.objs.size, .fields vs, sl⟩) :: post)) := N2
  obtain ⟨F3, N3⟩ := news_upd (f := Obj.putName name (PyData.keyHash w.params name) (.str name (t + 1)) v) (o' := dictOf [⟨PyData.keyHash w.params name, .str name (t + 1), v⟩] 1) F2 N2'
    (fun p hp => nomatch hp) (fun p hp => by
      rcases List.mem_append.mp hp with hp | hp
      · exact Nat.ne_of_lt (hlt p (by simp [hp]))
      · rcases List.mem_cons.mp hp with rfl | hp
        · exact hxn.symm
        · exact Nat.ne_of_lt (hlt p (by simp [hp]))) (by rfl) rfl
  have hd2 := (N2 (hh.objs.size, emptyDict) (by simp)).1
  have hd3 := (N3 (hh.objs.size, dictOf [⟨PyData.keyHash w.params name, .str name (t + 1), v⟩] 1) (by simp)).1
  have fin := h hh.objs.size _ F3 (by rw [e2]; exact N3) hlt
  refine set_plain X I S.set (exc_osa_open (s := ⟨hh, g, d, t + 1, os⟩) X I S ht fun _ => ?_)
  refine wpAny_bind (wpAny_pure (wpAny_bind ?_))
  show wpAny _ _ (instanceDict x true) _ _ _
  unfold instanceDict
  refine wpAny_bind (wpAny_loadPart hx0 ?_)
  dsimp only
  refine wpAny_bind ((looks_clsIn X S.cls).at ?_)
  rw [S.dict]
  simp only [Bool.not_true, Bool.false_eq_true, if_false]
  refine wpAny_bind (wpAny_alloc (wpAny_bind (wpAny_update (Heap.get?_push_of_some _ hx0) ?_)))
  refine wpAny_pure ?_
  show wpAny _ _ (storeInDict hh.objs.size (Value.str name t) name v) _ _ _
  refine wpAny_bind (wpAny_pure (wpAny_bind ?_))
  unfold nsSet
  refine wpAny_bind (wpAny_bind (wpAny_askSetting (wpAny_pure (wpAny_bind (wpAny_mkText (wpAny_bind (wpAny_loadPart hd2 ?_)))))))
  refine wpAny_updatePart hd2 ?_
  refine wpAny_bind (wpAny_lookBehind hd3 (pastItsLine_dict (by rw [List.size_toArray, sizeLine_eq]; show 1 ≤ _; omega)) ?_)
  exact wpAny_pure fin
end
end Mine
end

-- Exc3
section
open PySem PySem.W PyProof.Rows PySem.Spec PySem.Calls Builtin Builtin.ObjectAttr Builtin.Getset_descriptor Builtin.BaseException
set_option maxRecDepth 100000
namespace Mine
theorem ga_kind : builtinKind "BaseException.__getattribute__" = some .slot := by decide +kernel
theorem ga_split : splitId "BaseException.__getattribute__" = some ("BaseException", "__getattribute__") := by decide +kernel

structure ExcGet (K : Frag) (C : Addr) (cd : ClassData) : Prop where
  cls : clsIn K C = some cd
  exc : cd.mro.contains (.type "BaseException") = true
  ne : cd.mro.isEmpty = false
  ga : findIn K (.ref C) "__getattribute__" = some (some (.builtin "BaseException.__getattribute__"))
  hook : findIn K (.ref C) "__getattr__" = some none

section
variable {prog : Program} {w : World} {A : Around} {R : Result → Shared → Prop} {E : Value → Shared → Prop} {s : Shared} {K : Frag} {x C L : Addr} {h₀ : Heap} {m : Str → Option Value} {cd : ClassData} {ox : Obj} {od : Option Obj} {name : Str}

theorem exc_ga_call {tk : Tok} (X : K.In s.heap) (I : InstAt s.heap x ox C od) (S : ExcGet K C cd)
    (h : wpAny (model prog w) A.in1 (Builtin.«object.__getattribute__» ⟨[.ref x, .str name tk], []⟩) (fun fin s' => match fin with | .done f => R (.ok f) s' | .again c' => c'.quiet = true ∧ codeAny (model prog w) A c' R s') (fun e s' => R (.error e) s') s) :
    codeAny (model prog w) A (.call (.builtin "BaseException.__getattribute__") ⟨[.ref x, .str name tk], []⟩) R s := by
  have sub : Looks (model prog w) s.heap (isInstance (.ref x) (.type "BaseException")) true := I.type.andThen (looks_mroIn X (by unfold mroIn; rw [S.cls, Option.bind_some, if_neg (by rw [S.ne]; decide), S.exc]))
  exact codeAny_call_builtin PySem.F.excAttr_ValueError.ga.plain PySem.F.entry_bexc_ga (@check_slot (model prog w) _ _ s "BaseException.__getattribute__" "BaseException" "__getattribute__" (.ref x) [.str name tk] [] _ ga_kind ga_split sub (PySem.F.args_bexc_ga (.ref x) (.str name tk)) h)

theorem exc_get_open {expr : Bool} {Q : Value → Shared → Prop} (X : K.In s.heap) (I : InstAt s.heap x ox C od) (S : ExcGet K C cd)
    (h : codeAny (model prog w) A (.call (.builtin "BaseException.__getattribute__") ⟨[.ref x, .str name s.toks], []⟩)
      (fun r s' => match r with | .ok (.ret v) => wpAny (model prog w) A (handedOut v) Q E s' | _ => False) { s with toks := s.toks + 1 }) :
    wpAny (model prog w) A (getAttr (.ref x) name expr) Q E s := by
  obtain ⟨hh, g, d, t, os⟩ := s
  have L0 := I.type (M := model prog w)
  have L1 := looks_findIn (M := model prog w) X S.ga
  have L2 := looks_findIn (M := model prog w) X S.hook
  unfold getAttr getAttrBy
  refine wpAny_bind (wpAny_mkText (wpAny_holding (wpAny_bind (L0.at (wpAny_bind (L1.at ?_))))))
  have hne : (onTheHeap (Value.ref C) && Value.builtin "BaseException.__getattribute__" == Value.builtin "object.__getattribute__") = false := by
    rw [show (Value.builtin "BaseException.__getattribute__" == Value.builtin "object.__getattribute__") = false by decide +kernel]; rfl
  dsimp only
  rw [hne, if_neg Bool.false_ne_true]
  unfold getAttrByItsOwn
  refine wpAny_bind ?_
  show wpAny _ _ (typeLookup (.ref C) "__getattr__") _ _ _
  refine L2.at ?_
  have hx0 : (expr && onTheHeap (Value.builtin "BaseException.__getattribute__")) = false := by cases expr <;> rfl
  unfold callGetattribute boundAndCalled
  rw [hx0, if_neg Bool.false_ne_true]
  refine wpAny_bind (wpAny_attempt (wpAny_holding ?_))
  rw [PySem.F.excAttr_ValueError.ga.bind]
  refine wpAny_bind (wpAny_pure (wpAny_call (codeAny_mono h fun r s' z => ?_)))
  rcases r with e | (v | _ | _ | _) <;> first | exact z.elim | exact z

/-- an attribute that stands in the instance's own dict -/
theorem exc_get_value {expr : Bool} {v : Value} {Q : Value → Shared → Prop} (X : K.In s.heap) (I : InstAt s.heap x ox C od) (S : ExcGet K C cd) (hf : findObj K C od name = some (.value v)) (hh : handedIn v = true)
    (h : Q v { s with toks := s.toks + 1 }) : wpAny (model prog w) A (getAttr (.ref x) name expr) Q E s := by
  refine exc_get_open X I S (exc_ga_call (s := { s with toks := s.toks + 1 }) X I S ?_)
  obtain ⟨hh', g, d, t, os⟩ := s
  have L0 := I.type (M := model prog w)
  have L1 := looks_find (M := model prog w) X I hf
  unfold Builtin.«object.__getattribute__»
  refine wpAny_bind (wpAny_pure (wpAny_bind (wpAny_pure (wpAny_bind (L0.at (wpAny_bind (L1.at ?_)))))))
  refine wpAny_pure ?_
  show wpAny _ _ (handedOut v) _ _ _
  rw [handedOut_of hh]; exact wpAny_pure h

/-- the arguments' tuple -/
theorem exc_get_args {expr : Bool} {t0 : Addr} {vs : Array Value} {Q : Value → Shared → Prop} (X : K.In s.heap) (I : InstAt s.heap x ox C od) (S : ExcGet K C cd) (hd : ox.data = .fields vs) (h0 : vs[0]? = some (.ref t0))
    (hf : findObj K C od "args" = some (.bind (.builtin "getset_descriptor.__get__") (.builtin "BaseException.args")))
    (h : Q (.ref t0) { s with toks := s.toks + 1 }) : wpAny (model prog w) A (getAttr (.ref x) "args" expr) Q E s := by
  refine exc_get_open X I S (exc_ga_call (s := { s with toks := s.toks + 1 }) X I S ?_)
  obtain ⟨hh', g, d, t, os⟩ := s
  have L0 := I.type (M := model prog w)
  have L1 := looks_find (M := model prog w) X I hf
  have L2 : Looks (model prog w) hh' (isSubtype (.ref C) (.type "BaseException")) true := looks_mroIn X (by unfold mroIn; rw [S.cls, Option.bind_some, if_neg (by rw [S.ne]; decide), S.exc])
  have hT5 : ∀ s' : Shared, s'.TypeIs (.builtin "BaseException.args") "getset_descriptor" := fun _ => PySem.F.typeOf_bexc_args
  unfold Builtin.«object.__getattribute__»
  refine wpAny_bind (wpAny_pure (wpAny_bind (wpAny_pure (wpAny_bind (L0.at (wpAny_bind (L1.at ?_)))))))
  show wpAny _ _ (holding [Value.builtin "BaseException.args"] (call (Value.builtin "getset_descriptor.__get__") [.builtin "BaseException.args", .ref x, .ref C]) >>= ret) _ _ _
  refine wpAny_bind (wpAny_holding (wpAny_call ?_))
  refine codeAny_call_builtin PySem.F.slot_gs_get.plain PySem.F.entry_gs_get ?_
  refine PySem.F.slot_gs_get.check _ _ _ _ _ _ _ _ (hT5 _) (PySem.F.args_gs_get _ _ _) ?_
  unfold Builtin.«getset_descriptor.__get__» descrGet
  rw [dga_obj]
  refine wpAny_bind (wpAny_pure ?_)
  unfold descrGetter descrCheckInstance descrNameAndClass isInstance
  simp only [args_owner]
  dsimp only at L0 L2
  repeat lk
  refine ⟨Code.quiet_builtin _ (by decide +kernel), codeAny_builtin PySem.F.entry_bexc_args ?_⟩
  have hnd : (Value.ref t0 == doubtfulMember) = false := by first | rfl | decide | simp [doubtfulMember, rawInt]
  unfold Builtin.«BaseException.args»
  refine wpAny_bind (wpAny_field I.at_ hd h0 ?_)
  rw [hnd, if_neg Bool.false_ne_true]
  exact wpAny_pure (wpAny_pure (wpAny_pure h))
end
end Mine
end

-- Show
section
open PySem PySem.W PyProof.Rows PySem.Spec PySem.Calls Builtin.BaseException Builtin.Str
set_option maxRecDepth 100000
namespace Mine
abbrev Kp (h h' : Heap) : Prop := ∀ b o, h.get? b = some o → h'.get? b = some o

/-- the special method `name` of `x` is the built-in `i`, bound to `x` -/
structure Sp (h₀ : Heap) (x : Value) (name : Str) (i : String) : Prop where
  look : ∀ M : Model, Looks M h₀ (specialOf x name) (some (.builtin i))
  bind : bindSpecial (.builtin i) x = pure (.builtin i, [x])

theorem Sp.keeps {h h' : Heap} {x : Value} {name : Str} {i : String} (S : Sp h x name i) (k : Kp h h') : Sp h' x name i := ⟨fun M => (S.look M).keeps k, S.bind⟩

/-- the built-in `i` called on `x` gives the text `t` -/
def CallsTo (as : List Addr) (h₀ : Heap) (d : Nat) (i : String) (x : Value) (t : Str) : Prop :=
  ∀ (prog : Program) (w : World) (A : Around) (g : List Code) (E : Value → Shared → Prop) (s : Shared) (Q : Value → Shared → Prop), A.guards = some g → (∀ b ∈ as, Clear g b) → A.units + d < cLine → Kp h₀ s.heap →
    (∀ h' u tk, Kp s.heap h' → Q (.str t u) { s with heap := h', toks := tk }) → wpAny (model prog w) A (call (.builtin i) [x]) Q E s

theorem CallsTo.keeps {as as' : List Addr} {h h' : Heap} {d d' : Nat} {i : String} {x : Value} {t : Str} (C : CallsTo as h d i x t) (k : Kp h h') (hs : ∀ b ∈ as, b ∈ as') (hd : d ≤ d') :
    CallsTo as' h' d' i x t := fun prog w A g E s Q hg hc hu hk hQ => C prog w A g E s Q hg (fun b hb => hc b (hs b hb)) (by omega) (fun b o e => hk b o (k b o e)) hQ

def Rep (as : List Addr) (h₀ : Heap) (d : Nat) (x : Value) (t : Str) : Prop := ∃ i, Sp h₀ x "__repr__" i ∧ CallsTo as h₀ d i x t
def StrC (as : List Addr) (h₀ : Heap) (d : Nat) (x : Value) (t : Str) : Prop := ∃ i, Sp h₀ x "__str__" i ∧ CallsTo as h₀ d i x t
def RepU (as : List Addr) (h₀ : Heap) (d : Nat) (x : Value) (t : Str) : Prop := ∀ (prog : Program) (w : World), ReprK prog w as h₀ d x t

theorem RepU.keeps {as as' : List Addr} {h h' : Heap} {d d' : Nat} {x : Value} {t : Str} (C : RepU as h d x t) (k : Kp h h') (hs : ∀ b ∈ as, b ∈ as') (hd : d ≤ d') :
    RepU as' h' d' x t := fun prog w base hb A g E s Q hg hc hu hk hQ => C prog w base hb A g E s Q hg (fun b hb => hc b (hs b hb)) (by omega) (fun b o e => hk b o (k b o e)) hQ
theorem Rep.keeps {as as' : List Addr} {h h' : Heap} {d d' : Nat} {x : Value} {t : Str} (C : Rep as h d x t) (k : Kp h h') (hs : ∀ b ∈ as, b ∈ as') (hd : d ≤ d') : Rep as' h' d' x t :=
  let ⟨i, a, b⟩ := C; ⟨i, a.keeps k, b.keeps k hs hd⟩
theorem StrC.keeps {as as' : List Addr} {h h' : Heap} {d d' : Nat} {x : Value} {t : Str} (C : StrC as h d x t) (k : Kp h h') (hs : ∀ b ∈ as, b ∈ as') (hd : d ≤ d') : StrC as' h' d' x t :=
  let ⟨i, a, b⟩ := C; ⟨i, a.keeps k, b.keeps k hs hd⟩

section
variable {prog : Program} {w : World} {A : Around} {E : Value → Shared → Prop} {s : Shared}

theorem sp_call {M : Model} {x : Value} {name : Str} {i : String} {Q : Option Value → Shared → Prop} (S : Sp s.heap x name i) (h : wpAny M A (call (.builtin i) [x]) (fun v => Q (some v)) E s) : wpAny M A (callSpecial? x name) Q E s := by
  unfold callSpecial?
  refine wpAny_bind ((S.look M).here (wpAny_holding ?_))
  rw [S.bind]
  exact wpAny_bind (wpAny_pure (wpAny_bind (wpAny_mono h (fun _ _ z => wpAny_pure z) fun _ _ z => z)))

theorem sp_callBy {M : Model} {last : Value → List Value → Sem Value} {x : Value} {name : Str} {i : String} {Q : Option Value → Shared → Prop} (S : Sp s.heap x name i) (h : wpAny M A (last (.builtin i) [x]) (fun v => Q (some v)) E s) :
    wpAny M A (callSpecialIfBoundBy? last x name) Q E s := by
  unfold callSpecialIfBoundBy? bindSpecialIfBound?
  refine wpAny_holding (wpAny_bind (wpAny_bind ((S.look M).here ?_)))
  dsimp only
  rw [S.bind]
  have fin : wpAny M A (last (.builtin i) [x] >>= fun v => pure (some v)) Q E s := wpAny_bind (wpAny_mono h (fun v s' h' => wpAny_pure h') fun _ _ h' => h')
  refine wpAny_bind (wpAny_askSetting (wpAny_ite ?_))
  split
  · exact wpAny_bind (wpAny_pure (wpAny_pure fin))
  · exact wpAny_tryCatch (wpAny_bind (wpAny_pure (wpAny_pure fin)))

theorem sp_callIf {M : Model} {x : Value} {name : Str} {i : String} {Q : Option Value → Shared → Prop} (S : Sp s.heap x name i) (h : wpAny M A (call (.builtin i) [x]) (fun v => Q (some v)) E s) :
    wpAny M A (callSpecialIfBound? x name) Q E s := sp_callBy (last := fun g first => call g (first ++ [])) S h

/-- repr(x) -/
theorem repr_call {as : List Addr} {h₀ : Heap} {d : Nat} {x : Value} {t : Str} {g : List Code} {Q : Value → Shared → Prop} (R : Rep as h₀ d x t) (hg : A.guards = some g) (hc : ∀ b ∈ as, Clear g b) (hu : A.units + 1 + d < cLine) (hk : Kp h₀ s.heap)
    (hQ : ∀ h' u tk, Kp s.heap h' → Q (.str t u) { s with heap := h', toks := tk }) : wpAny (model prog w) A (call (.builtin "repr") [x]) Q E s := by
  obtain ⟨i, S, C⟩ := R
  refine Calls.call_function_entry PySem.F.kind_repr PySem.F.plain_repr PySem.F.entry_repr (PySem.F.args_repr1 _) ?_
  unfold Builtin.«repr»
  refine wpAny_bind (m := oneArg "repr" _) (wpAny_pure ?_)
  refine wpAny_bind (wpAny_cRoomFor (show A.units + 1 < cLine by omega) ?_)
  refine wpAny_bind (((S.keeps hk).look _).here ?_)
  refine wpAny_bind (m := callSpecialIfBound? x (Str.ofString "__repr__")) (sp_callIf (S.keeps hk) (C prog w A.in1 g E s _ hg hc (show A.units + 1 + d < cLine from hu) hk fun h' u tk k => ?_))
  exact wpAny_bind (wpAny_isInstance (T := "str") (b := true) rfl isSubtype_str_str (wpAny_pure ⟨_, rfl, hQ h' u tk k⟩))

theorem strOf_call {as : List Addr} {h₀ : Heap} {d : Nat} {x : Value} {t : Str} {g : List Code} {Q : Value → Shared → Prop} (hx : isExactStr x = false) (R : StrC as h₀ d x t) (hg : A.guards = some g) (hc : ∀ b ∈ as, Clear g b) (hu : A.units + d < cLine) (hk : Kp h₀ s.heap)
    (hQ : ∀ h' u tk, Kp s.heap h' → Q (.str t u) { s with heap := h', toks := tk }) : wpAny (model prog w) A (Builtin.Str.strOf x) Q E s := by
  obtain ⟨i, S, C⟩ := R
  unfold Builtin.Str.strOf
  rw [hx]
  refine wpAny_bind (m := cRoomFor _ _) (wpAny_cRoomFor (by omega) ?_)
  refine wpAny_bind (m := callSpecial? x (Str.ofString "__str__")) (sp_call (S.keeps hk) (C prog w A g E s _ hg hc hu hk fun h' u tk k => ?_))
  exact wpAny_pure (hQ h' u tk k)

/-- str(x), x no exact text -/
theorem str_call {as : List Addr} {h₀ : Heap} {d : Nat} {x : Value} {t : Str} {g : List Code} {Q : Value → Shared → Prop} (hx : isExactStr x = false) (R : StrC as h₀ d x t) (hg : A.guards = some g) (hc : ∀ b ∈ as, Clear g b) (hu : A.units + 2 + d < cLine) (hk : Kp h₀ s.heap)
    (hQ : ∀ h' u tk, Kp s.heap h' → Q (.str t u) { s with heap := h', toks := tk }) : wpAny (model prog w) A (call (.type "str") [x]) Q E s :=
  callType_new PySem.F.called_str (by decide) (PySem.F.typeCall_str_1 _) (PySem.F.newCall_str_1 _) (fun obj => PySem.F.args_object_init_2 obj _) PySem.F.entry_str_new
    (meets_str_new (S := fun A' R s' => A'.guards = some g ∧ A'.units + 1 + d < cLine ∧ Kp h₀ s'.heap ∧
        ∀ h' u tk, Kp s'.heap h' → R (.ok (.ret (.str t u))) { s' with heap := h', toks := tk })
      fun prog' w' A' R' s' h => strOf_call (A := A'.in1) hx R h.1 hc (show A'.units + 1 + d < cLine from h.2.1) h.2.2.1 h.2.2.2)
    ⟨hg, by show A.units + 1 + 1 + d < cLine; omega, hk, fun h' u tk k => ⟨typeIs_str _ _ _, hQ h' u tk k⟩⟩
end

/-! exceptions of own classes, one argument -/
structure ExcShow (K : Frag) (C : Addr) (cd : ClassData) : Prop where
  cls : clsIn K C = some cd
  exc : cd.mro.contains (.type "BaseException") = true
  ne : cd.mro.isEmpty = false
  repr : findIn K (.ref C) "__repr__" = some (some (.builtin "BaseException.__repr__"))
  str : findIn K (.ref C) "__str__" = some (some (.builtin "BaseException.__str__"))

theorem rp_kind : builtinKind "BaseException.__repr__" = some .slot := by decide +kernel
theorem rp_split : splitId "BaseException.__repr__" = some ("BaseException", "__repr__") := by decide +kernel
theorem st_kind : builtinKind "BaseException.__str__" = some .slot := by decide +kernel
theorem st_split : splitId "BaseException.__str__" = some ("BaseException", "__str__") := by decide +kernel

/-- an exception of the own class C with the one argument y -/
structure ExcOne (h : Heap) (e C : Addr) (y : Value) : Prop where
  ex : ∃ dd vs sl t0 n, h.get? e = some ⟨.ref C, dd, .fields vs, sl⟩ ∧ vs[0]? = some (.ref t0) ∧ h.get? t0 = some ⟨.type "tuple", none, .seq #[y] n, #[]⟩
theorem ExcOne.keeps {h h' : Heap} {e C : Addr} {y : Value} (x : ExcOne h e C y) (k : Kp h h') : ExcOne h' e C y := by
  obtain ⟨dd, vs, sl, t0, n, a, b, c⟩ := x; exact ⟨dd, vs, sl, t0, n, k _ _ a, b, k _ _ c⟩

def lastName (n : Str) : Str := ((n.toString.cutAt '.').getLastD "")

section
variable {prog : Program} {w : World} {A : Around} {E : Value → Shared → Prop} {s : Shared} {K : Frag} {C e : Addr} {y : Value} {cd : ClassData}

theorem exc_looks_type {M : Model} {h : Heap} (x : ExcOne h e C y) : Looks M h (typeOf (.ref e)) (.ref C) := by
  obtain ⟨dd, vs, sl, t0, n, a, b, c⟩ := x
  exact (Looks.ld a).andThen .now
theorem exc_looks_args {M : Model} {h : Heap} (x : ExcOne h e C y) : ∃ t, Looks M h (bexcArgs (.ref e)) (t, [y]) := by
  obtain ⟨dd, vs, sl, t0, n, a, b, c⟩ := x
  refine ⟨.ref t0, fun A Q E s k q => ?_⟩
  unfold bexcArgs
  exact wpAny_bind (wpAny_field (k _ _ a) rfl b (wpAny_bind (wpAny_seqItems (k _ _ c) rfl (wpAny_pure q))))
theorem exc_looks_sub {M : Model} {h : Heap} (X : K.In h) (S : ExcShow K C cd) (x : ExcOne h e C y) : Looks M h (isInstance (.ref e) (.type "BaseException")) true :=
  (exc_looks_type x).andThen (looks_mroIn X (by unfold mroIn; rw [S.cls, Option.bind_some, if_neg (by rw [S.ne]; decide), S.exc]))

theorem sp_exc_repr {h : Heap} (X : K.In h) (S : ExcShow K C cd) (x : ExcOne h e C y) : Sp h (.ref e) "__repr__" "BaseException.__repr__" :=
  ⟨fun _ => (exc_looks_type x).andThen (looks_findIn X S.repr), PySem.F.excStr_Exception.repr.bind _⟩
theorem sp_exc_str {h : Heap} (X : K.In h) (S : ExcShow K C cd) (x : ExcOne h e C y) : Sp h (.ref e) "__str__" "BaseException.__str__" :=
  ⟨fun _ => (exc_looks_type x).andThen (looks_findIn X S.str), PySem.F.excStr_Exception.str.bind _⟩

set_option maxHeartbeats 1000000 in
theorem bexcReprAt_one {base : Nat} {as : List Addr} {h₀ : Heap} {d : Nat} {t : Str} {g : List Code} {Q : Fin → Shared → Prop} (X : K.In h₀) (S : ExcShow K C cd) (x : ExcOne h₀ e C y) (R : RepU as h₀ d y t)
    (hg : A.guards = some g) (hc : ∀ b ∈ as, Clear g b) (hu : A.units + d < cLine) (hk : Kp h₀ s.heap) (hsz : base + (lastName cd.name ++ "(" ++ t ++ ")").length ≤ sizeLine)
    (hQ : ∀ h' u tk, Kp s.heap h' → Q (.done (.ret (.str (lastName cd.name ++ "(" ++ t ++ ")") u))) { s with heap := h', toks := tk }) :
    wpAny (model prog w) A (Builtin.bexcReprAt base ⟨[.ref e], []⟩) Q E s := by
  have hl : (lastName cd.name ++ Str.ofString "(" ++ t ++ Str.ofString ")").length = (lastName cd.name).length + 1 + t.length + 1 := by
    rw [strLen_append, strLen_append, strLen_append]; rfl
  rw [hl] at hsz
  unfold Builtin.bexcReprAt typeNameOfWhole shownTypeOf
  refine wpAny_bind (wpAny_pure ?_)
  refine wpAny_bind (wpAny_bind (wpAny_bind (((exc_looks_type x).keeps hk).here ?_)))
  rw [if_neg (by simp)]
  refine wpAny_pure ?_
  show wpAny _ _ (classData C >>= fun c => pure c.name.toString) _ _ _
  refine wpAny_bind ((looks_clsIn (X.keeps hk) S.cls).here (wpAny_pure ?_))
  obtain ⟨tt, La⟩ := exc_looks_args (M := model prog w) (x.keeps hk)
  refine wpAny_bind (La.here ?_)
  refine wpAny_bind (wpAny_rule ?_)
  refine wpAny_bind (R prog w (base + ((lastName cd.name).length + 1)) (by omega) A g E s _ hg hc hu hk fun h' tk k => ?_)
  exact wpAny_bind (wpAny_mkStr (wpAny_pure (hQ h' _ _ k)) (by show (lastName cd.name ++ Str.ofString "(" ++ t ++ Str.ofString ")").length ≤ sizeLine; rw [hl]; omega))

theorem callsTo_exc_repr {as : List Addr} {h₀ : Heap} {d : Nat} {t : Str} (X : K.In h₀) (S : ExcShow K C cd) (x : ExcOne h₀ e C y) (R : RepU as h₀ d y t) (hsz : (lastName cd.name ++ "(" ++ t ++ ")").length ≤ sizeLine) :
    CallsTo as h₀ (d + 1) "BaseException.__repr__" (.ref e) (lastName cd.name ++ "(" ++ t ++ ")") := by
  intro prog w A g E s Q hg hc hu hk hQ
  refine wpAny_call (codeAny_call_builtin PySem.F.excStr_Exception.repr.plain PySem.F.entry_bexc_repr (@check_slot (model prog w) _ _ s "BaseException.__repr__" "BaseException" "__repr__" (.ref e) [] [] _ rp_kind rp_split (exc_looks_sub (X.keeps hk) S (x.keeps hk)) (PySem.F.args_bexc_repr _) ?_))
  exact bexcReprAt_one (base := 0) (A := A.in1) X S x R hg hc (show A.units + 1 + d < cLine by omega) hk (by omega) fun h' u tk k => hQ h' u tk k

theorem repU_exc {as : List Addr} {h₀ : Heap} {d : Nat} {t : Str} (X : K.In h₀) (S : ExcShow K C cd) (x : ExcOne h₀ e C y) (R : RepU as h₀ d y t) : RepU as h₀ (d + 1) (.ref e) (lastName cd.name ++ "(" ++ t ++ ")") := by
  intro prog w base hb A g E s Q hg hc hu hk hQ
  refine wpAny_pyReprUnder_ref (by omega) ?_
  unfold pyReprObjUnder pyReprObjBy
  have Sr := (sp_exc_repr X S x).keeps hk
  refine wpAny_bind (wpAny_cRoomFor (by omega) (wpAny_bind ((Sr.look _).here ?_)))
  refine wpAny_bind (m := callSpecialIfBoundBy? _ (.ref e) (Str.ofString "__repr__")) (sp_callBy Sr ?_)
  show wpAny _ _ (call (.builtin "BaseException.__repr__.under") [.ref e, rawInt base]) _ _ _
  refine wpAny_call (codeAny_call_builtin PySem.F.plain_bexc_repr_under PySem.F.entry_bexc_repr_under ?_)
  rw [PySem.F.check_bexc_repr_under]
  refine wpAny_pure ?_
  unfold Builtin.«BaseException.__repr__.under»
  rw [reprTwin_eq]
  refine wpAny_bind (@check_slot (model prog w) _ _ s "BaseException.__repr__" "BaseException" "__repr__" (.ref e) [] [] _ rp_kind rp_split (exc_looks_sub (X.keeps hk) S (x.keeps hk)) (PySem.F.args_bexc_repr _) ?_)
  refine bexcReprAt_one (A := A.in1) X S x R hg hc (show A.units + 1 + d < cLine by omega) hk hb fun h' u tk k => ?_
  exact wpAny_bind (wpAny_isInstance (T := "str") (b := true) rfl isSubtype_str_str (wpAny_pure ⟨_, _, rfl, hQ h' tk k⟩))

theorem rep_exc {as : List Addr} {h₀ : Heap} {d : Nat} {t : Str} (X : K.In h₀) (S : ExcShow K C cd) (x : ExcOne h₀ e C y) (R : RepU as h₀ d y t) (hsz : (lastName cd.name ++ "(" ++ t ++ ")").length ≤ sizeLine) : Rep as h₀ (d + 1) (.ref e) (lastName cd.name ++ "(" ++ t ++ ")") :=
  ⟨_, sp_exc_repr X S x, callsTo_exc_repr X S x R hsz⟩

/-- str of an exception: its argument's -/
theorem strC_exc {as : List Addr} {h₀ : Heap} {d : Nat} {t : Str} (X : K.In h₀) (S : ExcShow K C cd) (x : ExcOne h₀ e C y) (R : (∃ u, y = .str t u) ∨ ((∀ a b, y ≠ .str a b) ∧ StrC as h₀ d y t)) : StrC as h₀ (d + 1) (.ref e) t := by
  refine ⟨_, sp_exc_str X S x, ?_⟩
  intro prog w A g E s Q hg hc hu hk hQ
  refine wpAny_call (codeAny_call_builtin PySem.F.excStr_Exception.str.plain PySem.F.entry_bexc_str (@check_slot (model prog w) _ _ s "BaseException.__str__" "BaseException" "__str__" (.ref e) [] [] _ st_kind st_split (exc_looks_sub (X.keeps hk) S (x.keeps hk)) (PySem.F.args_bexc_str _) ?_))
  unfold Builtin.«BaseException.__str__»
  refine wpAny_bind (wpAny_pure ?_)
  obtain ⟨tt, La⟩ := exc_looks_args (M := model prog w) (x.keeps hk)
  refine wpAny_bind (La.here ?_)
  refine wpAny_bind (wpAny_rule (wpAny_bind ?_))
  rcases R with ⟨u, rfl⟩ | ⟨hn, i, Sy, Cy⟩
  · unfold bexcText
    exact wpAny_pure (wpAny_pure (hQ s.heap u s.toks fun _ _ e => e))
  · unfold bexcText
    rw [if_pos (by rfl)]
    split
    · exact absurd rfl (hn _ _)
    refine wpAny_bind (wpAny_cRoomFor (show A.units + 1 < cLine by omega) (wpAny_bind (sp_call (Sy.keeps hk) (Cy prog w A.in1 g E s _ hg hc (show A.units + 1 + d < cLine by omega) hk fun h' u tk k => ?_))))
    exact wpAny_bind (wpAny_isInstance (T := "str") (b := true) rfl isSubtype_str_str (wpAny_pure (wpAny_pure (hQ h' u tk k))))
end
end Mine
end

-- Show2
section
open PySem PySem.W PyProof.Rows PySem.Spec PySem.Calls
set_option maxRecDepth 100000
namespace Mine

theorem sp_val {h : Heap} {v : Value} {T : String} {name : Str} {i : String} (hT : typeOf v = pure (.type T)) (S : SlotG T name i) : Sp h v name i :=
  ⟨fun _ => (Looks.of_pure hT).andThen (Looks.of_pure S.lookup), S.bind _⟩
theorem sp_obj {h : Heap} {a : Addr} {o : Obj} {T : String} {name : Str} {i : String} (ha : h.get? a = some o) (hc : o.cls = .type T) (S : SlotG T name i) : Sp h (.ref a) name i :=
  ⟨fun _ => ((Looks.ld ha).andThen (hc ▸ Looks.now)).andThen (Looks.of_pure S.lookup), S.bind _⟩

/-- a built-in that gives a text at once -/
theorem callsTo_pure {as : List Addr} {h : Heap} {d : Nat} {x : Value} {T : String} {name : Str} {i : String} {b : Builtin} {t : Str} (S : Slot T name i) (hT : ∀ s : Shared, Kp h s.heap → s.TypeIs x T) (entry : entryFor table i = some b) (args : argsOk i ⟨[x], []⟩)
    (hb : ∀ (s : Shared) (M : Model) (A : Around) (Q : Fin → Shared → Prop) (E : Value → Shared → Prop), Kp h s.heap → (∀ u tk, Q (.done (.ret (.str t u))) { s with toks := tk }) → wpAny M A (b ⟨[x], []⟩) Q E s) : CallsTo as h d i x t := by
  intro prog w A g E s Q hg hc hu hk hQ
  exact wpAny_call_entry S (hT s hk) entry (hb s _ _ _ _ hk fun u tk => ⟨_, rfl, hQ s.heap u tk fun _ _ e => e⟩) args

/-- object.__str__ hands on to repr -/
theorem strC_object {as : List Addr} {h : Heap} {d : Nat} {x : Value} {T i : String} {t : Str} (slotStr : Slot T "__str__" "object.__str__") (slotRepr : SlotG T "__repr__" i) (hT : ∀ s : Shared, Kp h s.heap → s.TypeIs x T) (S : Sp h x "__str__" "object.__str__")
    (C : CallsTo as h d i x t) : StrC as h (d + 1) x t := by
  refine ⟨_, S, ?_⟩
  intro prog w A g E s Q hg hc hu hk hQ
  exact call_object_str_slot (by omega) (hT s hk) slotStr slotRepr (C prog w A.in1 g E s Q hg hc (show A.units + 1 + d < cLine by omega) hk hQ)

theorem listText_one (t : Str) : listText [t] = "[" ++ t ++ "]" := by
  show (Str.ofString "[" ++ Str.ofString "" ++ t) ++ Str.ofString "]" = _
  rw [show Str.ofString "" = Str.empty from rfl, Str.append_empty]
theorem tupleText_one (t : Str) : tupleText [t] = "(" ++ t ++ ",)" := rfl

section
variable {as : List Addr} {h : Heap} {d : Nat} {a : Addr} {n : Nat} {y : Value} {t : Str}
theorem callsTo_list (ha : h.get? a = some ⟨.type "list", none, .seq #[y] n, #[]⟩) (hna : a ∉ as) (R : RepU as h d y t) (hsz : (Str.ofString "[" ++ t ++ "]").length ≤ sizeLine) : CallsTo (a :: as) h (d + 1) "list.__repr__" (.ref a) ("[" ++ t ++ "]") := by
  intro prog w A g E s Q hg hc hu hk hQ
  rw [← listText_one] at hQ hsz
  refine call_list_reprK (l := []) ha rfl rfl hna rfl (fun i z e => ?_) hg hc hu hk hQ hsz
  cases i with
  | zero => cases e; exact ⟨t, rfl, R prog w⟩
  | succ i => simp at e
theorem repU_list (ha : h.get? a = some ⟨.type "list", none, .seq #[y] n, #[]⟩) (hna : a ∉ as) (R : RepU as h d y t) : RepU (a :: as) h (d + 1) (.ref a) ("[" ++ t ++ "]") := by
  intro prog w
  rw [← listText_one]
  refine ReprK.list (l := []) ha rfl rfl hna rfl fun i z e => ?_
  cases i with
  | zero => cases e; exact ⟨t, rfl, R prog w⟩
  | succ i => simp at e
theorem callsTo_tuple (ha : h.get? a = some ⟨.type "tuple", none, .seq #[y] n, #[]⟩) (hna : a ∉ as) (R : RepU as h d y t) (hsz : (Str.ofString "(" ++ t ++ ",)").length ≤ sizeLine) : CallsTo (a :: as) h (d + 1) "tuple.__repr__" (.ref a) ("(" ++ t ++ ",)") := by
  intro prog w A g E s Q hg hc hu hk hQ
  rw [← tupleText_one] at hQ hsz
  exact call_tuple_reprK ha rfl rfl hna (.cons (R prog w) .nil) hg hc hu hk hQ hsz
theorem repU_tuple (ha : h.get? a = some ⟨.type "tuple", none, .seq #[y] n, #[]⟩) (hna : a ∉ as) (R : RepU as h d y t) : RepU (a :: as) h (d + 1) (.ref a) ("(" ++ t ++ ",)") := by
  intro prog w
  rw [← tupleText_one]
  exact ReprK.tuple ha rfl rfl hna (.cons (R prog w) .nil)
end

/-- what a thing of the tower shows: its repr from within and from outside, its str; no exact text -/
structure Shows (as : List Addr) (h : Heap) (d : Nat) (x : Value) (nm wd : Str) : Prop where
  no : ∀ a b, x ≠ .str a b
  u : RepU as h d x nm
  r : Rep as h d x nm
  s : StrC as h (d + 1) x wd
theorem Shows.keeps {as as' : List Addr} {h h' : Heap} {d d' : Nat} {x : Value} {nm wd : Str} (S : Shows as h d x nm wd) (k : Kp h h') (hs : ∀ b ∈ as, b ∈ as') (hd : d ≤ d') : Shows as' h' d' x nm wd :=
  ⟨S.no, S.u.keeps k hs hd, S.r.keeps k hs hd, S.s.keeps k hs (by omega)⟩

section
variable {as : List Addr} {h : Heap} {d : Nat} {a : Addr} {n : Nat} {y : Value} {t : Str}
theorem shows_list (ha : h.get? a = some ⟨.type "list", none, .seq #[y] n, #[]⟩) (hna : a ∉ as) (R : RepU as h d y t) (hsz : (Str.ofString "[" ++ t ++ "]").length ≤ sizeLine) : Shows (a :: as) h (d + 1) (.ref a) ("[" ++ t ++ "]") ("[" ++ t ++ "]") :=
  ⟨(fun _ _ e => by cases e), repU_list ha hna R, ⟨_, sp_obj ha rfl PySem.F.slot_list_repr.toG, callsTo_list ha hna R hsz⟩,
    strC_object (x := .ref a) PySem.F.slot_list_str PySem.F.slot_list_repr.toG (fun s k => ⟨_, k _ _ ha, rfl⟩) (sp_obj ha rfl PySem.F.slot_list_str.toG) (callsTo_list ha hna R hsz)⟩
theorem shows_tuple (ha : h.get? a = some ⟨.type "tuple", none, .seq #[y] n, #[]⟩) (hna : a ∉ as) (R : RepU as h d y t) (hsz : (Str.ofString "(" ++ t ++ ",)").length ≤ sizeLine) : Shows (a :: as) h (d + 1) (.ref a) ("(" ++ t ++ ",)") ("(" ++ t ++ ",)") :=
  ⟨(fun _ _ e => by cases e), repU_tuple ha hna R, ⟨_, sp_obj ha rfl PySem.F.slot_tuple_repr, callsTo_tuple ha hna R hsz⟩,
    strC_object (x := .ref a) PySem.F.slot_tuple_str PySem.F.slot_tuple_repr (fun s k => ⟨_, k _ _ ha, rfl⟩) (sp_obj ha rfl PySem.F.slot_tuple_str.toG) (callsTo_tuple ha hna R hsz)⟩
theorem shows_exc {K : Frag} {C e : Addr} {cd : ClassData} {wd : Str} (X : K.In h) (S : ExcShow K C cd) (x : ExcOne h e C y) (R : RepU as h d y t) (W : (∃ u, y = .str wd u) ∨ ((∀ a b, y ≠ .str a b) ∧ StrC as h (d + 1) y wd))
    (hsz : (lastName cd.name ++ "(" ++ t ++ ")").length ≤ sizeLine) : Shows as h (d + 1) (.ref e) (lastName cd.name ++ "(" ++ t ++ ")") wd :=
  ⟨(fun _ _ e => by cases e), repU_exc X S x R, rep_exc X S x R hsz, strC_exc X S x W⟩
end
end Mine
end

-- Cores
section
open PySem PySem.W PyProof.Rows PySem.Spec PySem.Calls
set_option maxRecDepth 100000
set_option linter.unusedVariables false
namespace Mine

theorem repU_leaf {as : List Addr} {h : Heap} {d : Nat} {v : Value} {t : Str} (hv : ∀ a, v ≠ .ref a) (R : Rep as h d v t) : RepU as h d v t := by
  obtain ⟨i, S, C⟩ := R
  intro prog w base hb A g E s Q hg hc hu hk hQ
  rw [pyReprUnder_leaf (by omega) hv]
  unfold pyRepr pyReprObj
  refine wpAny_bind (wpAny_bind (wpAny_cRoomFor (by omega) (wpAny_bind (((S.keeps hk).look _).here ?_))))
  refine wpAny_bind (m := callSpecialIfBound? v (Str.ofString "__repr__")) (sp_callIf (S.keeps hk) (C prog w A g E s _ hg hc hu hk fun h' u tk k => ?_))
  exact wpAny_bind (wpAny_isInstance (T := "str") (b := true) rfl isSubtype_str_str (wpAny_pure (wpAny_pure (hQ h' tk k))))

theorem repU_ref {as : List Addr} {h : Heap} {d : Nat} {a : Addr} {i : String} {t : Str} (S : Sp h (.ref a) "__repr__" i) (C : CallsTo as h d i (.ref a) t) (ht : reprUnder? (.builtin i) = none) : RepU as h d (.ref a) t := by
  intro prog w base hb A g E s Q hg hc hu hk hQ
  refine wpAny_pyReprUnder_ref (by omega) ?_
  unfold pyReprObjUnder pyReprObjBy
  refine wpAny_bind (wpAny_cRoomFor (by omega) (wpAny_bind (((S.keeps hk).look _).here ?_)))
  refine wpAny_bind (m := callSpecialIfBoundBy? _ (.ref a) (Str.ofString "__repr__")) (sp_callBy (S.keeps hk) ?_)
  dsimp only
  rw [ht]
  show wpAny _ _ (call (.builtin i) [.ref a]) _ _ _
  refine C prog w A g E s _ hg hc hu hk fun h' u tk k => ?_
  exact wpAny_bind (wpAny_isInstance (T := "str") (b := true) rfl isSubtype_str_str (wpAny_pure ⟨_, _, rfl, hQ h' tk k⟩))

section
variable {as : List Addr} {h : Heap} {d : Nat}
theorem pure_of_eq {M : Model} {A : Around} {s : Shared} {b : Sem Fin} {t : Str} (e : b = retStr t) (hsz : t.length ≤ sizeLine) {Q : Fin → Shared → Prop} {E : Value → Shared → Prop} (hQ : ∀ u tk, Q (.done (.ret (.str t u))) { s with toks := tk }) : wpAny M A b Q E s := by
  subst e; exact wpAny_bind (wpAny_mkStr (wpAny_pure (hQ _ _)) hsz)

-- None
theorem calls_none : CallsTo as h d "NoneType.__repr__" .none "None" :=
  callsTo_pure (T := "NoneType") (name := "__repr__") (b := Builtin.«NoneType.__repr__») PySem.F.slot_NoneType_repr (fun s _ => typeIs_none s) PySem.F.entry_NoneType_repr (PySem.F.args_NoneType_repr_1 _) (fun s M A Q E _ hQ => pure_of_eq (t := "None") rfl (by decide) hQ)
theorem rep_none : Rep as h d .none "None" := ⟨_, sp_val (typeIs_none {}) PySem.F.slot_NoneType_repr.toG, calls_none⟩
theorem str_none : StrC as h (d + 1) .none "None" :=
  strC_object (x := .none) PySem.F.slot_NoneType_str PySem.F.slot_NoneType_repr.toG (fun s _ => typeIs_none s) (sp_val (typeIs_none {}) PySem.F.slot_NoneType_str.toG) calls_none

-- False
theorem calls_false : CallsTo as h d "bool.__repr__" (.bool false) "False" :=
  callsTo_pure (T := "bool") (name := "__repr__") (b := Builtin.«bool.__repr__») PySem.F.slot_bool_repr (fun s _ => PySem.typeIs_bool s false) PySem.F.entry_bool_repr (PySem.F.args_bool_repr_1 _) (fun s M A Q E _ hQ => pure_of_eq (t := "False") rfl (by decide) hQ)
theorem rep_false : Rep as h d (.bool false) "False" := ⟨_, sp_val (PySem.typeIs_bool {} false) PySem.F.slot_bool_repr.toG, calls_false⟩
theorem str_false : StrC as h (d + 1) (.bool false) "False" :=
  strC_object (x := .bool false) PySem.F.slot_bool_str PySem.F.slot_bool_repr.toG (fun s _ => PySem.typeIs_bool s false) (sp_val (PySem.typeIs_bool {} false) PySem.F.slot_bool_str.toG) calls_false

-- 0
theorem calls_zero {t : Tok} : CallsTo as h d "int.__repr__" (.int 0 t) "0" :=
  callsTo_pure (T := "int") (name := "__repr__") (b := Builtin.«int.__repr__») PySem.F.slot_int_repr (fun s _ => typeIs_int s 0 t) PySem.F.entry_int_repr (PySem.F.args_int_repr_1 _) (fun s M A Q E _ hQ => pure_of_eq (t := "0") (by kernel_rfl) (by decide) hQ)
theorem rep_zero {t : Tok} : Rep as h d (.int 0 t) "0" := ⟨_, sp_val (typeIs_int {} 0 t) PySem.F.slot_int_repr.toG, calls_zero⟩
theorem str_zero {t : Tok} : StrC as h (d + 1) (.int 0 t) "0" :=
  strC_object (x := .int 0 t) PySem.F.slot_int_str PySem.F.slot_int_repr.toG (fun s _ => typeIs_int s 0 t) (sp_val (typeIs_int {} 0 t) PySem.F.slot_int_str.toG) calls_zero

-- texts
theorem calls_text {x : Str} {t : Tok} (hsz : (reprText x).length ≤ sizeLine) : CallsTo as h d "str.__repr__" (.str x t) (reprText x) := by
  intro prog w A g E s Q hg hc hu hk hQ
  exact call_gives PySem.F.slot_str_repr (typeIs_str _ _ _) PySem.F.entry_str_repr (PySem.F.args_str_repr_1 _) (gives_str_repr x t) ⟨hsz, hQ s.heap _ _ fun _ _ e => e⟩
theorem rep_text {x : Str} {t : Tok} (hsz : (reprText x).length ≤ sizeLine) : Rep as h d (.str x t) (reprText x) := ⟨_, sp_val (typeIs_str {} x t) PySem.F.slot_str_repr.toG, calls_text hsz⟩

-- b''
theorem slot_br : Slot "bytes" "__repr__" "bytes.__repr__" :=
  .of (owner := "bytes") (n := "__repr__") (by rw [typeLookup_type, builtinLookup_eq_fast]; kernel_rfl) (by decide +kernel) (by decide +kernel) (by decide +kernel) (by first | exact .inl (by decide +kernel) | exact .inr (by decide +kernel)) (by rw [isSubtype_type]; kernel_rfl)
theorem slot_bs : Slot "bytes" "__str__" "bytes.__str__" :=
  .of (owner := "bytes") (n := "__str__") (by rw [typeLookup_type, builtinLookup_eq_fast]; kernel_rfl) (by decide +kernel) (by decide +kernel) (by decide +kernel) (by first | exact .inl (by decide +kernel) | exact .inr (by decide +kernel)) (by rw [isSubtype_type]; kernel_rfl)
theorem entry_br : entryFor table "bytes.__repr__" = some Builtin.«bytes.__repr__» := entryFor_of_tree (by kernel_rfl)
theorem entry_bs : entryFor table "bytes.__str__" = some Builtin.«bytes.__str__» := entryFor_of_tree (by kernel_rfl)
theorem args_br (a : Value) : argsOk "bytes.__repr__" ⟨[a], []⟩ := by unfold argsOk; kernel_rfl
theorem args_bs (a : Value) : argsOk "bytes.__str__" ⟨[a], []⟩ := by unfold argsOk; kernel_rfl
theorem rep_bytes {t : Tok} : Rep as h d (.bytes #[] t) "b''" := ⟨_, sp_val (typeIs_bytes {} #[] t) slot_br.toG,
  callsTo_pure (T := "bytes") (name := "__repr__") slot_br (fun s _ => typeIs_bytes s #[] t) entry_br (args_br _) (fun s M A Q E _ hQ => pure_of_eq (t := "b''") (by kernel_rfl) (by decide) hQ)⟩
theorem str_bytes {t : Tok} : StrC as h d (.bytes #[] t) "b''" := ⟨_, sp_val (typeIs_bytes {} #[] t) slot_bs.toG,
  callsTo_pure (T := "bytes") (name := "__str__") slot_bs (fun s _ => typeIs_bytes s #[] t) entry_bs (args_bs _) (fun s M A Q E _ hQ => pure_of_eq (t := "b''") (by kernel_rfl) (by decide) hQ)⟩

-- ()
variable {a : Addr} {n : Nat}
theorem calls_tuple0 (ha : h.get? a = some ⟨.type "tuple", none, .seq #[] n, #[]⟩) : CallsTo [a] h 1 "tuple.__repr__" (.ref a) "()" := by
  intro prog w A g E s Q hg hc hu hk hQ
  exact call_tuple_reprK (as := []) (d := 0) (ts := []) ha rfl rfl (by simp) .nil hg hc hu hk hQ (by decide)
theorem repU_tuple0 (ha : h.get? a = some ⟨.type "tuple", none, .seq #[] n, #[]⟩) : RepU [a] h 1 (.ref a) "()" :=
  fun prog w => ReprK.tuple (as := []) (d := 0) (ts := []) ha rfl rfl (by simp) .nil
theorem rep_tuple0 (ha : h.get? a = some ⟨.type "tuple", none, .seq #[] n, #[]⟩) : Rep [a] h 1 (.ref a) "()" := ⟨_, sp_obj ha rfl PySem.F.slot_tuple_repr, calls_tuple0 ha⟩
theorem str_tuple0 (ha : h.get? a = some ⟨.type "tuple", none, .seq #[] n, #[]⟩) : StrC [a] h 2 (.ref a) "()" :=
  strC_object (x := .ref a) PySem.F.slot_tuple_str PySem.F.slot_tuple_repr (fun s k => ⟨_, k _ _ ha, rfl⟩) (sp_obj ha rfl PySem.F.slot_tuple_str.toG) (calls_tuple0 ha)

-- []
theorem calls_list0 (ha : h.get? a = some ⟨.type "list", none, .seq #[] n, #[]⟩) : CallsTo [a] h 1 "list.__repr__" (.ref a) "[]" := by
  intro prog w A g E s Q hg hc hu hk hQ
  exact call_list_repr_empty ⟨_, hk _ _ ha, rfl⟩ (hk _ _ ha) rfl (hQ s.heap _ _ fun _ _ e => e)
theorem repU_list0 (ha : h.get? a = some ⟨.type "list", none, .seq #[] n, #[]⟩) : RepU [a] h 1 (.ref a) "[]" := fun prog w => ReprK.listEmpty ha rfl rfl
theorem rep_list0 (ha : h.get? a = some ⟨.type "list", none, .seq #[] n, #[]⟩) : Rep [a] h 1 (.ref a) "[]" := ⟨_, sp_obj ha rfl PySem.F.slot_list_repr.toG, calls_list0 ha⟩
theorem str_list0 (ha : h.get? a = some ⟨.type "list", none, .seq #[] n, #[]⟩) : StrC [a] h 2 (.ref a) "[]" :=
  strC_object (x := .ref a) PySem.F.slot_list_str PySem.F.slot_list_repr.toG (fun s k => ⟨_, k _ _ ha, rfl⟩) (sp_obj ha rfl PySem.F.slot_list_str.toG) (calls_list0 ha)

-- {}
theorem calls_dict0 (ha : h.get? a = some ⟨.type "dict", none, .dict #[] n, #[]⟩) (hs : a ≠ sysModules) : CallsTo [a] h 1 "dict.__repr__" (.ref a) "{}" := by
  intro prog w A g E s Q hg hc hu hk hQ
  exact call_dict_reprK (as := []) (d := 0) (ps := []) ha rfl rfl (beq_eq_false_iff_ne.mpr hs) (by simp) .nil hg hc hu hk hQ (by decide)
theorem repU_dict0 (ha : h.get? a = some ⟨.type "dict", none, .dict #[] n, #[]⟩) (hs : a ≠ sysModules) : RepU [a] h 1 (.ref a) "{}" :=
  fun prog w => ReprK.dict (as := []) (d := 0) (ps := []) ha rfl rfl (beq_eq_false_iff_ne.mpr hs) (by simp) .nil
theorem rep_dict0 (ha : h.get? a = some ⟨.type "dict", none, .dict #[] n, #[]⟩) (hs : a ≠ sysModules) : Rep [a] h 1 (.ref a) "{}" := ⟨_, sp_obj ha rfl PySem.F.slot_dict_repr, calls_dict0 ha hs⟩
theorem str_dict0 (ha : h.get? a = some ⟨.type "dict", none, .dict #[] n, #[]⟩) (hs : a ≠ sysModules) : StrC [a] h 2 (.ref a) "{}" :=
  strC_object (x := .ref a) PySem.F.slot_dict_str PySem.F.slot_dict_repr (fun s k => ⟨_, k _ _ ha, rfl⟩) (sp_obj ha rfl PySem.F.slot_dict_str.toG) (calls_dict0 ha hs)

-- bytearray()
theorem slot_ar : Slot "bytearray" "__repr__" "bytearray.__repr__" :=
  .of (owner := "bytearray") (n := "__repr__") (by rw [typeLookup_type, builtinLookup_eq_fast]; kernel_rfl) (by decide +kernel) (by decide +kernel) (by decide +kernel) (by first | exact .inl (by decide +kernel) | exact .inr (by decide +kernel)) (by rw [isSubtype_type]; kernel_rfl)
theorem slot_as : Slot "bytearray" "__str__" "bytearray.__str__" :=
  .of (owner := "bytearray") (n := "__str__") (by rw [typeLookup_type, builtinLookup_eq_fast]; kernel_rfl) (by decide +kernel) (by decide +kernel) (by decide +kernel) (by first | exact .inl (by decide +kernel) | exact .inr (by decide +kernel)) (by rw [isSubtype_type]; kernel_rfl)
theorem entry_ar : entryFor table "bytearray.__repr__" = some Builtin.«bytearray.__repr__» := entryFor_of_tree (by kernel_rfl)
theorem entry_as : entryFor table "bytearray.__str__" = some Builtin.«bytearray.__str__» := entryFor_of_tree (by kernel_rfl)
theorem args_ar (a : Value) : argsOk "bytearray.__repr__" ⟨[a], []⟩ := by unfold argsOk; kernel_rfl
theorem args_as (a : Value) : argsOk "bytearray.__str__" ⟨[a], []⟩ := by unfold argsOk; kernel_rfl
abbrev baObj : Obj := { cls := .type "bytearray", data := .bytearray #[] 0 }
theorem q_of {Q : Fin → Shared → Prop} {x y : Str} {u : Tok} {s : Shared} (e : x = y) (h : Q (.done (.ret (.str y u))) s) : Q (.done (.ret (.str x u))) s := e ▸ h
theorem rep_ba (ha : h.get? a = some baObj) : Rep as h d (.ref a) "bytearray(b'')" := by
  refine ⟨_, sp_obj ha rfl slot_ar.toG, callsTo_pure (T := "bytearray") (name := "__repr__") slot_ar (fun s k => ⟨_, k _ _ ha, rfl⟩) entry_ar (args_ar _) (fun s M A Q E hk hQ => ?_)⟩
  have ha' := hk _ _ ha
  obtain ⟨hh, g, dr, tk, os⟩ := s
  dsimp only at ha'
  unfold Builtin.«bytearray.__repr__»
  repeat lk
  exact q_of (by kernel_rfl) (hQ tk (tk + 1))
theorem str_ba (ha : h.get? a = some baObj) : StrC as h d (.ref a) "bytearray(b'')" := by
  refine ⟨_, sp_obj ha rfl slot_as.toG, callsTo_pure (T := "bytearray") (name := "__str__") slot_as (fun s k => ⟨_, k _ _ ha, rfl⟩) entry_as (args_as _) (fun s M A Q E hk hQ => ?_)⟩
  have ha' := hk _ _ ha
  obtain ⟨hh, g, dr, tk, os⟩ := s
  dsimp only at ha'
  unfold Builtin.«bytearray.__str__»
  repeat lk
  exact q_of (by kernel_rfl) (hQ tk (tk + 1))
theorem repU_ba (ha : h.get? a = some baObj) : RepU as h d (.ref a) "bytearray(b'')" := by
  refine repU_ref (sp_obj ha rfl slot_ar.toG) (callsTo_pure (T := "bytearray") (name := "__repr__") slot_ar (fun s k => ⟨_, k _ _ ha, rfl⟩) entry_ar (args_ar _) (fun s M A Q E hk hQ => ?_)) (by rfl)
  have ha' := hk _ _ ha
  obtain ⟨hh, g, dr, tk, os⟩ := s
  dsimp only at ha'
  unfold Builtin.«bytearray.__repr__»
  repeat lk
  exact q_of (by kernel_rfl) (hQ tk (tk + 1))
end
end Mine
end

-- Floor06
section
open PySem PySem.W PyProof.Rows PySem.Spec PySem.Calls
set_option linter.unusedVariables false
namespace Mine
abbrev prog06 : Program := PySem.Challenge.rw_dm0148_06.row.prog
noncomputable abbrev K06 (P : Params) : Frag := hd06.heap_39 P
abbrev bmExc : List Value := [.type "Exception", .type "BaseException", .type "object"]
theorem tail24 (P : Params) : tailIn (hd06.heap_39 P) bmExc (.ref 24 :: bmExc) = true := by kernel_rfl
theorem tailB (P : Params) : tailIn (hd06.heap_39 P) bmExc bmExc = true := by kernel_rfl

noncomputable abbrev cdOf (P : Params) (C : Addr) : ClassData := (clsIn (hd06.heap_39 P) C).getD default
theorem refuse_exc1 (a : Addr) (self : Value) : refuseLoop self "__setattr__" (.ref a :: bmExc) = pure () := by rw [refuseLoop_ref]; exact PySem.F.store_Exception.passes self
theorem refuse_exc2 (a b : Addr) (self : Value) : refuseLoop self "__setattr__" (.ref a :: .ref b :: bmExc) = pure () := by rw [refuseLoop_ref, refuse_exc1]
theorem set63 (P : Params) : ExcSet (hd06.heap_39 P) 63 (cdOf P 63) := ⟨by kernel_rfl, fun self => refuse_exc2 63 24 self, by kernel_rfl, by kernel_rfl, by kernel_rfl, by kernel_rfl, by kernel_rfl, by kernel_rfl⟩
theorem set44 (P : Params) : ExcSet (hd06.heap_39 P) 44 (cdOf P 44) := ⟨by kernel_rfl, fun self => refuse_exc2 44 24 self, by kernel_rfl, by kernel_rfl, by kernel_rfl, by kernel_rfl, by kernel_rfl, by kernel_rfl⟩
theorem get63 (P : Params) : ExcGet (hd06.heap_39 P) 63 (cdOf P 63) := ⟨by kernel_rfl, by kernel_rfl, by kernel_rfl, by kernel_rfl, by kernel_rfl⟩
theorem get44 (P : Params) : ExcGet (hd06.heap_39 P) 44 (cdOf P 44) := ⟨by kernel_rfl, by kernel_rfl, by kernel_rfl, by kernel_rfl, by kernel_rfl⟩
theorem show63 (P : Params) : ExcShow (hd06.heap_39 P) 63 (cdOf P 63) := ⟨by kernel_rfl, by kernel_rfl, by kernel_rfl, by kernel_rfl, by kernel_rfl⟩
theorem show44 (P : Params) : ExcShow (hd06.heap_39 P) 44 (cdOf P 44) := ⟨by kernel_rfl, by kernel_rfl, by kernel_rfl, by kernel_rfl, by kernel_rfl⟩
theorem show24 (P : Params) : ExcShow (hd06.heap_39 P) 24 (cdOf P 24) := ⟨by kernel_rfl, by kernel_rfl, by kernel_rfl, by kernel_rfl, by kernel_rfl⟩
theorem name63 (P : Params) : lastName (cdOf P 63).name = "BadStatusLine" := by kernel_rfl
theorem name44 (P : Params) : lastName (cdOf P 44).name = "UnknownProtocol" := by kernel_rfl
theorem name24 (P : Params) : lastName (cdOf P 24).name = "HTTPException" := by kernel_rfl
theorem taker63 (P : Params) : takerIn (hd06.heap_39 P) 63 "line" = some none := by kernel_rfl
theorem taker44 (P : Params) : takerIn (hd06.heap_39 P) 44 "version" = some none := by kernel_rfl
end Mine
end

-- Floor06b
section
open PySem PySem.W PyProof.Rows PySem.Spec PySem.Calls
set_option linter.unusedVariables false
namespace Mine

theorem inst_exc {h₀ h : Heap} {L x C : Addr} {news : List (Addr × Obj)} {vs : Array Value} {sl : Array (Option Value)} (N : News h₀ L h news) (m : (x, (⟨.ref C, none, .fields vs, sl⟩ : Obj)) ∈ news) : InstAt h x ⟨.ref C, none, .fields vs, sl⟩ C none := ⟨(N _ m).1, rfl, rfl, trivial⟩
theorem tup_news {h₀ h : Heap} {L x : Addr} {news : List (Addr × Obj)} {vs : Array Value} {n : Nat} (N : News h₀ L h news) (m : (x, (⟨.type "tuple", none, .seq vs n, #[]⟩ : Obj)) ∈ news) : IsTup h x vs := ⟨_, (N _ m).1, rfl, n, rfl⟩

/-- the heap ht says nothing but what h₀ and the ledger tw say -/
def Cov (ht h₀ : Heap) (tw : List (Addr × Obj)) : Prop := ∀ b o, ht.get? b = some o → h₀.get? b = some o ∨ (b, o) ∈ tw
theorem Cov.kp {ht h₀ g h : Heap} {L : Addr} {tw news : List (Addr × Obj)} (C : Cov ht h₀ tw) (k : Kp h₀ h) (N : News g L h news) (hs : ∀ p ∈ tw, p ∈ news) : Kp ht h := fun b o e => (C b o e).elim (k b o) fun hm => (N _ (hs _ hm)).1
def NeAll (x : Addr) (tw : List (Addr × Obj)) : Prop := ∀ p ∈ tw, p.1 ≠ x
theorem neAll_tail {e : Addr × Obj} {tw : List (Addr × Obj)} {tx x : Addr} (h : ∀ p ∈ e :: tw, p.1 < tx) (h2 : tx < x) : NeAll x tw := fun p hp => Nat.ne_of_lt (Nat.lt_trans (h p (.tail _ hp)) h2)
theorem neAll_lt {d : Nat} : ∀ {tw : List (Addr × Obj)}, AllLt d tw → NeAll d tw
  | [], _ => fun p hp => nomatch hp
  | q :: r, ⟨h1, h2⟩ => fun p hp => by
    rcases List.mem_cons.mp hp with rfl | hp
    · exact Nat.ne_of_lt h1
    · exact neAll_lt h2 p hp
theorem own_get {ht : Heap} {own : List (Addr × Obj)} {a : Addr} {o : Obj} (h : ∀ p ∈ own, ht.get? p.1 = some p.2) (hm : (a, o) ∈ own) : ht.get? a = some o := h _ hm
theorem own_mid {p e : Addr × Obj} {own tw : List (Addr × Obj)} (h : p ∈ e :: (own ++ tw)) : p ∈ own ++ e :: tw := List.perm_middle.mem_iff.mpr h
theorem neNil {x : Addr} : NeAll x [] := fun p hp => nomatch hp
theorem neCons {x a : Addr} {o : Obj} {r : List (Addr × Obj)} (h : @Ne Nat a x) (h2 : NeAll x r) : NeAll x ((a, o) :: r) := fun p hp => by
  rcases List.mem_cons.mp hp with rfl | hp
  · exact h
  · exact h2 p hp
def OwnNe (own tw : List (Addr × Obj)) : Prop := ∀ q ∈ own, NeAll q.1 tw
theorem ownNil {tw : List (Addr × Obj)} : OwnNe [] tw := fun p hp => nomatch hp
theorem ownCons {a : Addr} {o : Obj} {r tw : List (Addr × Obj)} (h : NeAll a tw) (h2 : OwnNe r tw) : OwnNe ((a, o) :: r) tw := fun p hp => by
  rcases List.mem_cons.mp hp with rfl | hp
  · exact h
  · exact h2 p hp
theorem NeAll.out {x : Addr} {tw : List (Addr × Obj)} (h : NeAll x tw) : ∀ p ∈ tw, p.1 ≠ x := h
local macro_rules | `(tactic| k_all) => `(tactic| exact NeAll.out (by assumption))
/-- what a truth test of `v` gives -/
def Truth (h : Heap) (v : Value) (b : Bool) : Prop := ∀ (prog : Program) (w : World) (A : Around) (Q : Bool → Shared → Prop) (E : Value → Shared → Prop) (s : Shared), A.units < 100 → Kp h s.heap → (∀ tk, Q b { s with toks := tk }) → wpAny (model prog w) A (truthy v) Q E s
theorem Truth.keeps {h h' : Heap} {v : Value} {b : Bool} (T : Truth h v b) (k : Kp h h') : Truth h' v b := fun prog w A Q E s hu hk hQ => T prog w A Q E s hu (fun b o e => hk b o (k b o e)) hQ
theorem kp2 {h₀ g L m h L' m'} (F : Fr h₀ L g m) (F' : Fr g L' h m') : Kp h₀ h := fun b o e => F'.keep b o (F.keep b o e)
theorem kp3 {h₀ g L m h L' m' h2 L2 m2} (F : Fr h₀ L g m) (F' : Fr g L' h m') (F2 : Fr h L2 h2 m2) : Kp h₀ h2 := fun b o e => F2.keep b o (F'.keep b o (F.keep b o e))

/-- an exception that has the thing v below it: as its argument and under `attr` -/
structure FloorAt (h : Heap) (C : Addr) (attr : Str) (v : Value) (x : Addr) : Prop where
  ex : ∃ dx vs sl ty n hs tk, h.get? x = some ⟨.ref C, some dx, .fields vs, sl⟩ ∧ vs[0]? = some (.ref ty) ∧ h.get? ty = some ⟨.type "tuple", none, .seq #[v] n, #[]⟩ ∧ h.get? dx = some (dictOf [⟨hs, .str attr tk, v⟩] 1)
theorem FloorAt.keeps {h h' : Heap} {C : Addr} {attr : Str} {v : Value} {x : Addr} (F : FloorAt h C attr v x) (k : Kp h h') : FloorAt h' C attr v x := by
  obtain ⟨dx, vs, sl, ty, n, hs, tk, a, b, c, d⟩ := F
  exact ⟨dx, vs, sl, ty, n, hs, tk, k _ _ a, b, k _ _ c, k _ _ d⟩
theorem FloorAt.one {h : Heap} {C : Addr} {attr : Str} {v : Value} {x : Addr} (F : FloorAt h C attr v x) : ExcOne h x C v := by
  obtain ⟨dx, vs, sl, ty, n, hs, tk, a, b, c, d⟩ := F
  exact ⟨some dx, vs, sl, ty, n, a, b, c⟩

abbrev excObjD (C ty dx : Addr) : Obj := { cls := .ref C, dict := some dx, data := .fields #[.ref ty, .none, .none, .none, .bool false, .none] }
section
variable {prog : Program} {w : World} {A : Around} {E : Value → Shared → Prop} {s : Shared} {K : Frag} {x C L tx ty : Addr} {h₀ : Heap} {m : Str → Option Value} {news : List (Addr × Obj)} {cd : ClassData} {items : Array Value} {Q : Unit → Shared → Prop}
theorem exc_args1 {news' : List (Addr × Obj)} (F : Fr h₀ L s.heap m) (X₀ : K.In h₀) (N : News h₀ L s.heap news) (hm : (x, excObj C tx) ∈ news) (S : ExcSet K C cd) (ht : IsTup s.heap ty items) (U : Upd x (excObj C tx) (excObj C ty) news news')
    (h : ∀ h', Fr h₀ L h' m → News h₀ L h' news' → Q () { s with heap := h', toks := s.toks + 1 }) : wpAny (model prog w) A (setAttr (.ref x) "args" (.ref ty)) Q E s :=
  exc_set_args F X₀ N (inst_exc N hm) S rfl rfl ht rfl U h
theorem exc_first1 {name : Str} {v : Value} {news' : Addr → List (Addr × Obj)} (F : Fr h₀ L s.heap m) (X₀ : K.In h₀) (N : News h₀ L s.heap news) (S : ExcSet K C cd) (ht : takerIn K C name = some none) (U : ∀ dx, Upd x (excObj C ty) (excObjD C ty dx) news (news' dx))
    (h : ∀ dx h', Fr h₀ L h' m → News h₀ L h' ((dx, dictOf [⟨PyData.keyHash w.params name, .str name (s.toks + 1), v⟩] 1) :: news' dx) → (∀ p ∈ news, p.1 < dx) → Q () { s with heap := h', toks := s.toks + 2 }) :
    wpAny (model prog w) A (setAttr (.ref x) name v) Q E s := exc_set_first F X₀ N S ht U h
end
/-- a call of an own exception class that has no __init__ of its own -/
theorem exc_make0 {prog : Program} {w : World} {A : Around} {E : Value → Shared → Prop} {s : Shared} {K : Frag} {C L : Addr} {h₀ : Heap} {m : Str → Option Value} {news : List (Addr × Obj)} {nm q : Str} {N : Addr} {bs bm bmB : List Value} {hdct : Bool} {sn : List Str} {sub : List Value} {ab : Bool} {col : Option Bool} {dd : Option Addr} {k0 k1 k2 k3 k5 : Option Value} {B newId initId : String} {Q : Value → Shared → Prop}
    (Fb : ExcBaseFacts B newId initId bmB) {rest : List Value} (F : Fr h₀ L s.heap m) (X₀ : K.In h₀) (Nw : News h₀ L s.heap news) (T : OwnTail h₀ bmB bm)
    (hC : K.lookup C = some (excClassObj nm q C N bs bm hdct sn sub ab col dd k0 k1 k2 k3 k5 newId)) (hn : nsOkIn K N = true) (hni : nsIn K N "__init__" = some none) (hrest : rest.length ≤ sizeLine)
    (h : ∀ x tx h', Fr h₀ L h' m → News h₀ L h' ((x, excObj C tx) :: (tx, tupObj rest) :: news) → (∀ p ∈ news, @Ne Nat p.1 x ∧ @Ne Nat p.1 tx) → Q (.ref x) { s with heap := h' }) :
    wpAny (model prog w) A (call (.ref C) rest) Q E s := by
  obtain ⟨hh, g, d, t, os⟩ := s
  have X := X₀.keeps F.keep
  refine wpAny_call_exc_subT Fb (T.keeps F.keep) (X _ _ hC) (.of_isNs (isNs_of_in X hn)) (nsMap_none_of_in X hn hni) (fun h' e M => ?_) hrest
  obtain ⟨k, hnew, t0, e1, e2, e3⟩ := M
  have old : ∀ b, hh.get? b = none → h₀.get? b = none := fun b hb => by
    cases q : h₀.get? b with
    | none => rfl
    | some o => have := F.keep _ _ q; rw [hb] at this; cases this
  obtain ⟨oL, es, ep, hL, r⟩ := F.ns
  have ne : ∀ b, hh.get? b = none → b ≠ L := fun b hb z => by rw [z, hL] at hb; cases hb
  refine h e t0 h' ⟨⟨oL, es, ep, k _ _ hL, r⟩, fun b o q => k _ _ (F.keep _ _ q), F.above⟩ (fun p hp => ?_) fun p hp => ⟨(fun z => by have := (Nw p hp).1; rw [z, hnew] at this; cases this), (fun z => by have := (Nw p hp).1; rw [z, e2] at this; cases this)⟩
  rcases List.mem_cons.mp hp with rfl | hp
  · exact ⟨e1, ne _ hnew, old _ hnew⟩
  · rcases List.mem_cons.mp hp with rfl | hp
    · exact ⟨e3, ne _ e2, old _ e2⟩
    · exact ⟨k _ _ (Nw p hp).1, (Nw p hp).2⟩
theorem ns23 (P : Params) : nsOkIn (hd06.heap_39 P) 23 = true := by kernel_rfl
theorem init23 (P : Params) : nsIn (hd06.heap_39 P) 23 "__init__" = some none := by kernel_rfl
local macro_rules | `(tactic| walk_at "call ref") => `(tactic| (k_here; (with_reducible show wpAny _ _ (call (Value.ref 24) _) _ _ _); k_dflt (refine' exc_make0 (C := 24) PySem.F.excBase_Exception ?k1 ?k2 ?k3 ?k4 ?k5 ?k6 ?k7 ?k8 ?_; (case k1 => k_asm); (case k2 => k_asm); (case k3 => k_asm); (case k5 => exact rfl); (case k4 => exact tail_of_in (by k_asm) (tailB _)); (case k6 => exact ns23 _); (case k7 => exact init23 _); (case k8 => exact (by decide : 1 ≤ sizeLine)); k_whole; intro x' tx' h' F' N' ne'; (have lx' : NeAll x' _ := fun p hp => (ne' p (List.Mem.tail _ hp)).1); (have lx2' : NeAll tx' _ := fun p hp => (ne' p (List.Mem.tail _ hp)).2); (replace ne' := ne' _ (List.Mem.head _)); (dsimp only at ne'))))
local macro_rules | `(tactic| walk_at "call ref") => `(tactic| (k_here; k_dflt (refine' exc_make PySem.F.excBase_Exception ?k1 ?k2 ?k3 ?k4 ?k5 ?k6 ?k7 ?k8 ?_; (case k1 => k_asm); (case k2 => k_asm); (case k3 => k_asm); (case k5 => exact rfl); (case k4 => exact tail_of_in (by k_asm) (tail24 _)); (case k6 => k_is); (case k7 => k_is); (case k8 => exact (by decide : 1 ≤ sizeLine)); k_whole; intro x' tx' h' F' N' l1 l2; (have lx' := neAll_tail l1 l2); (try k_lt l1); (try k_lt2 l2); k_enter)))
local macro_rules | `(tactic| walk_at "setAttr ref") => `(tactic| (k_here; k_dflt (refine' exc_first1 ?k1 ?k2 ?k3 ?k5 ?k6 ?k7 ?_; (case k1 => k_asm); (case k2 => k_asm); (case k3 => k_asm); (case k7 => (intro dx'; k_upd)); (case k5 => first | exact set63 _ | exact set44 _); (case k6 => first | exact taker63 _ | exact taker44 _); k_whole; intro d' h' F' N' l1; (try k_lt l1); (try k_sweep))))
local macro_rules | `(tactic| walk_at "setAttr ref") => `(tactic| (k_here; (with_reducible show wpAny _ _ (setAttr (Value.ref _) (PySem.Str.ofString "args") (Value.ref _)) _ _ _); k_dflt (refine' exc_args1 ?k1 ?k2 ?k3 ?k4 ?k5 ?k8 ?k10 ?_; (case k1 => k_asm); (case k2 => k_asm); (case k3 => k_asm); (case k4 => k_mem); (case k5 => first | exact set63 _ | exact set44 _); (case k8 => exact tup_news (by k_asm) (by k_mem)); (case k10 => k_upd); k_whole; intro h' F' N'; (try k_sweep))))

set_option maxRecDepth 100000 in
set_option maxHeartbeats 8000000 in
theorem floor2 {w : World} {mean : ExcName → Option Value} {mg mb : Str → Option Value} {cn : Str} {cs : Scope} {a : Addr} {ccd : Value} {base h₀ : Heap} {L : Addr} {m : Str → Option Value} {ta : Addr} {ot : Obj} {tw : List (Addr × Obj)} {s : Shared} {v : Value} {t : Tok}
    {Q E : Value → Shared → Prop}
    (B : Below callerA base [] h₀) (F : Fr h₀ L s.heap m) (X : (hd06.heap_39 w.params).In h₀) (N : News h₀ L s.heap ((ta, ot) :: tw)) (T : Top hd06.view_39 (looseW hd06.view_39 []) mean mg mb h₀) (hk : cs.kind = .function)
    (ret : ∀ x own h' tk', Fr h₀ L h' m → News h₀ L h' ((ta, ot) :: (own ++ tw)) → (∀ h'' : Heap, (∀ p ∈ own, h''.get? p.1 = some p.2) → FloorAt h'' 44 "version" v x) → NeAll x tw → NeAll ta own → OwnNe own tw → Q (.ref x) { s with heap := h', toks := tk' }) :
    wpAny (model prog06 w) (callerA.deeper (envOf cn cs L a ccd)) (call (.ref 72) [.int 2 t, v]) Q E s := by
  have hfill : PySem.Challenge.rw_dm0148_06.about = PySem.Challenge.rw_dm0148_06.about ∧ hd06.heap_39 = hd06.heap_39 := by k_fill; exact ⟨rfl, rfl⟩
  clear hfill
  refine wpAny_call ?_
  k_dflt ktr_enter
  w_strict (k_steps)
  (rename News h₀ L _ _ => kN)
  exact ret _ [_, _, _, _] _ _ (by assumption) (fun p hp => kN p (own_mid hp)) (fun h'' kb => ⟨_, _, _, _, _, _, _, (own_get kb (by k_mem)), rfl, (own_get kb (by k_mem)), (own_get kb (by k_mem))⟩) (by assumption) (by repeat' (first | exact neNil | refine neCons (by omega) ?_)) (by repeat' (first | exact ownNil | refine ownCons (by first | assumption | exact neAll_lt (And.right (by assumption)) | exact neAll_lt (And.right (And.right (by assumption))) | exact neAll_lt (And.right (And.right (And.right (by assumption)))) | exact neAll_lt (And.right (And.right (And.right (And.right (by assumption)))))) ?_))

set_option maxRecDepth 100000 in
set_option maxHeartbeats 8000000 in
theorem floor4 {w : World} {mean : ExcName → Option Value} {mg mb : Str → Option Value} {cn : Str} {cs : Scope} {a : Addr} {ccd : Value} {base h₀ : Heap} {L : Addr} {m : Str → Option Value} {ta : Addr} {ot : Obj} {tw : List (Addr × Obj)} {s : Shared} {v : Value} {t : Tok}
    {Q E : Value → Shared → Prop}
    (B : Below callerA base [] h₀) (F : Fr h₀ L s.heap m) (X : (hd06.heap_39 w.params).In h₀) (N : News h₀ L s.heap ((ta, ot) :: tw)) (T : Top hd06.view_39 (looseW hd06.view_39 []) mean mg mb h₀) (hk : cs.kind = .function)
    (ret : ∀ x own h' tk', Fr h₀ L h' m → News h₀ L h' ((ta, ot) :: (own ++ tw)) → (∀ h'' : Heap, (∀ p ∈ own, h''.get? p.1 = some p.2) → h''.get? x = some ⟨.type "list", none, .seq #[v] 0, #[]⟩) → NeAll x tw → NeAll ta own → OwnNe own tw → Q (.ref x) { s with heap := h', toks := tk' }) :
    wpAny (model prog06 w) (callerA.deeper (envOf cn cs L a ccd)) (call (.ref 72) [.int 4 t, v]) Q E s := by
  have hfill : PySem.Challenge.rw_dm0148_06.about = PySem.Challenge.rw_dm0148_06.about ∧ hd06.heap_39 = hd06.heap_39 := by k_fill; exact ⟨rfl, rfl⟩
  clear hfill
  refine wpAny_call ?_
  k_dflt ktr_enter
  w_strict (k_steps)
  (rename News h₀ L _ _ => kN)
  exact ret _ [_] _ _ (by assumption) (fun p hp => kN p (own_mid hp)) (fun h'' kb => (own_get kb (by k_mem))) (neAll_lt (And.right (by assumption))) (by repeat' (first | exact neNil | refine neCons (by omega) ?_)) (by repeat' (first | exact ownNil | refine ownCons (by first | assumption | exact neAll_lt (And.right (by assumption)) | exact neAll_lt (And.right (And.right (by assumption))) | exact neAll_lt (And.right (And.right (And.right (by assumption)))) | exact neAll_lt (And.right (And.right (And.right (And.right (by assumption)))))) ?_))

set_option maxRecDepth 100000 in
set_option maxHeartbeats 8000000 in
theorem floor5 {w : World} {mean : ExcName → Option Value} {mg mb : Str → Option Value} {cn : Str} {cs : Scope} {a : Addr} {ccd : Value} {base h₀ : Heap} {L : Addr} {m : Str → Option Value} {ta : Addr} {ot : Obj} {tw : List (Addr × Obj)} {s : Shared} {v : Value} {t : Tok}
    {Q E : Value → Shared → Prop}
    (B : Below callerA base [] h₀) (F : Fr h₀ L s.heap m) (X : (hd06.heap_39 w.params).In h₀) (N : News h₀ L s.heap ((ta, ot) :: tw)) (T : Top hd06.view_39 (looseW hd06.view_39 []) mean mg mb h₀) (hk : cs.kind = .function)
    (ret : ∀ x own h' tk', Fr h₀ L h' m → News h₀ L h' ((ta, ot) :: (own ++ tw)) → (∀ h'' : Heap, (∀ p ∈ own, h''.get? p.1 = some p.2) → h''.get? x = some ⟨.type "tuple", none, .seq #[v] 0, #[]⟩) → NeAll x tw → NeAll ta own → OwnNe own tw → Q (.ref x) { s with heap := h', toks := tk' }) :
    wpAny (model prog06 w) (callerA.deeper (envOf cn cs L a ccd)) (call (.ref 72) [.int 5 t, v]) Q E s := by
  have hfill : PySem.Challenge.rw_dm0148_06.about = PySem.Challenge.rw_dm0148_06.about ∧ hd06.heap_39 = hd06.heap_39 := by k_fill; exact ⟨rfl, rfl⟩
  clear hfill
  refine wpAny_call ?_
  k_dflt ktr_enter
  w_strict (k_steps)
  (rename News h₀ L _ _ => kN)
  exact ret _ [_] _ _ (by assumption) (fun p hp => kN p (own_mid hp)) (fun h'' kb => (own_get kb (by k_mem))) (neAll_lt (And.right (by assumption))) (by repeat' (first | exact neNil | refine neCons (by omega) ?_)) (by repeat' (first | exact ownNil | refine ownCons (by first | assumption | exact neAll_lt (And.right (by assumption)) | exact neAll_lt (And.right (And.right (by assumption))) | exact neAll_lt (And.right (And.right (And.right (by assumption)))) | exact neAll_lt (And.right (And.right (And.right (And.right (by assumption)))))) ?_))

set_option maxRecDepth 100000 in
set_option maxHeartbeats 8000000 in
theorem floor3 {w : World} {mean : ExcName → Option Value} {mg mb : Str → Option Value} {cn : Str} {cs : Scope} {a : Addr} {ccd : Value} {base h₀ : Heap} {L : Addr} {m : Str → Option Value} {ta : Addr} {ot : Obj} {tw : List (Addr × Obj)} {s : Shared} {v : Value} {t : Tok}
    {Q E : Value → Shared → Prop}
    (B : Below callerA base [] h₀) (F : Fr h₀ L s.heap m) (X : (hd06.heap_39 w.params).In h₀) (N : News h₀ L s.heap ((ta, ot) :: tw)) (T : Top hd06.view_39 (looseW hd06.view_39 []) mean mg mb h₀) (hk : cs.kind = .function)
    (ret : ∀ x own h' tk', Fr h₀ L h' m → News h₀ L h' ((ta, ot) :: (own ++ tw)) → (∀ h'' : Heap, (∀ p ∈ own, h''.get? p.1 = some p.2) → ExcOne h'' x 24 v) → NeAll x tw → NeAll ta own → OwnNe own tw → Q (.ref x) { s with heap := h', toks := tk' }) :
    wpAny (model prog06 w) (callerA.deeper (envOf cn cs L a ccd)) (call (.ref 72) [.int 3 t, v]) Q E s := by
  have hfill : PySem.Challenge.rw_dm0148_06.about = PySem.Challenge.rw_dm0148_06.about ∧ hd06.heap_39 = hd06.heap_39 := by k_fill; exact ⟨rfl, rfl⟩
  clear hfill
  refine wpAny_call ?_
  k_dflt ktr_enter
  w_strict (k_steps)
  (rename News h₀ L _ _ => kN)
  exact ret _ [_, _] _ _ (by assumption) (fun p hp => kN p (own_mid hp)) (fun h'' kb => ⟨_, _, _, _, _, (own_get kb (by k_mem)), rfl, (own_get kb (by k_mem))⟩) (by assumption) (by repeat' (first | exact neNil | refine neCons (by omega) ?_)) (by repeat' (first | exact ownNil | refine ownCons (by first | assumption | exact neAll_lt (And.right (by assumption)) | exact neAll_lt (And.right (And.right (by assumption))) | exact neAll_lt (And.right (And.right (And.right (by assumption)))) | exact neAll_lt (And.right (And.right (And.right (And.right (by assumption)))))) ?_))

theorem truth_use {h : Heap} {v : Value} {b : Bool} {prog : Program} {w : World} {A : Around} {Q : Bool → Shared → Prop} {E : Value → Shared → Prop} {s : Shared} (T : Truth h v b) (hu : A.units < 100) (hk : Kp h s.heap) (hQ : ∀ tk, Q b { s with toks := tk }) : wpAny (model prog w) A (truthy v) Q E s := T prog w A Q E s hu hk hQ
local macro_rules | `(tactic| walk_at "truthy") => `(tactic| ((refine' truth_use (by assumption) ?u ?kp ?_; (case u => exact (by decide : 14 < 100)); (case kp => (refine' Cov.kp (by assumption) ?q ?n ?m; (case n => assumption); (case q => (refine' kp3 ?a ?b ?c; (case c => assumption); (case b => assumption); (case a => assumption))); (case m => (intro p hp; repeat (first | exact hp | apply List.Mem.tail)))))); intro tk'))
set_option maxRecDepth 100000 in
set_option maxHeartbeats 8000000 in
theorem floor01 {w : World} {mean : ExcName → Option Value} {mg mb : Str → Option Value} {cn : Str} {cs : Scope} {a : Addr} {ccd : Value} {base h₀ : Heap} {L : Addr} {m : Str → Option Value} {ta : Addr} {ot : Obj} {tw : List (Addr × Obj)} {s : Shared} {v : Value} {t : Tok} {k : Int}
    {Q E : Value → Shared → Prop}
    (B : Below callerA base [] h₀) (F : Fr h₀ L s.heap m) (X : (hd06.heap_39 w.params).In h₀) (N : News h₀ L s.heap ((ta, ot) :: tw)) (T : Top hd06.view_39 (looseW hd06.view_39 []) mean mg mb h₀) (hk : cs.kind = .function) (hk0 : 0 ≤ k) (hk2 : k < 2) {ht : Heap} (hC : Cov ht h₀ tw) (hT : Truth ht v true)
    (ret : ∀ x own h' tk', Fr h₀ L h' m → News h₀ L h' ((ta, ot) :: (own ++ tw)) → (∀ h'' : Heap, (∀ p ∈ own, h''.get? p.1 = some p.2) → FloorAt h'' 63 "line" v x) → NeAll x tw → NeAll ta own → OwnNe own tw → Q (.ref x) { s with heap := h', toks := tk' }) :
    wpAny (model prog06 w) (callerA.deeper (envOf cn cs L a ccd)) (call (.ref 72) [.int k t, v]) Q E s := by
  have hfill : PySem.Challenge.rw_dm0148_06.about = PySem.Challenge.rw_dm0148_06.about ∧ hd06.heap_39 = hd06.heap_39 := by k_fill; exact ⟨rfl, rfl⟩
  clear hfill
  refine wpAny_call ?_
  k_dflt ktr_enter
  w_strict (k_steps)
  (rename News h₀ L _ _ => kN)
  exact ret _ [_, _, _, _] _ _ (by assumption) (fun p hp => kN p (own_mid hp)) (fun h'' kb => ⟨_, _, _, _, _, _, _, (own_get kb (by k_mem)), rfl, (own_get kb (by k_mem)), (own_get kb (by k_mem))⟩) (by assumption) (by repeat' (first | exact neNil | refine neCons (by omega) ?_)) (by repeat' (first | exact ownNil | refine ownCons (by first | assumption | exact neAll_lt (And.right (by assumption)) | exact neAll_lt (And.right (And.right (by assumption))) | exact neAll_lt (And.right (And.right (And.right (by assumption)))) | exact neAll_lt (And.right (And.right (And.right (And.right (by assumption)))))) ?_))

theorem fr_kp {h₀ h h' : Heap} {L : Addr} {m : Str → Option Value} (F : Fr h₀ L h m) (k : Kp h h') : Fr h₀ L h' m := by
  obtain ⟨oL, es, ep, hL, r⟩ := F.ns
  exact ⟨⟨oL, es, ep, k _ _ hL, r⟩, fun b o e => k _ _ (F.keep b o e), F.above⟩
theorem news_kp {h₀ h h' : Heap} {L : Addr} {news : List (Addr × Obj)} (N : News h₀ L h news) (k : Kp h h') : News h₀ L h' news := fun p hp => ⟨k _ _ (N p hp).1, (N p hp).2⟩
theorem repr_rule {prog : Program} {w : World} {A : Around} {E : Value → Shared → Prop} {s : Shared} {g h₀ : Heap} {L : Addr} {m : Str → Option Value} {news : List (Addr × Obj)} {as : List Addr} {d : Nat} {v : Value} {t : Str} {Q : Value → Shared → Prop}
    (F : Fr g L s.heap m) (N : News g L s.heap news) (R : Rep as h₀ d v t) (hg : A.guards = some []) (hu : A.units + 1 + d < cLine) (hk : Kp h₀ s.heap)
    (hQ : ∀ h' u tk, Fr g L h' m → News g L h' news → Q (.str t u) { s with heap := h', toks := tk }) : wpAny (model prog w) A (call (.builtin "repr") [v]) Q E s :=
  repr_call R hg (fun b _ => Clear.nil b) hu hk fun h' u tk k => hQ h' u tk (fr_kp F k) (news_kp N k)
local macro_rules | `(tactic| walk_at "call builtin:repr") => `(tactic| ((refine' repr_rule ?k1 ?k2 ?k3 ?k4 ?k5 ?k6 ?_; (case k1 => k_asm); (case k2 => k_asm); (case k3 => assumption); (case k4 => exact rfl); (case k5 => exact (by decide : 14 + 1 + 1 < cLine)); (case k6 => (refine' Cov.kp (by assumption) ?q ?n ?m; (case n => assumption); (case q => (refine' kp3 ?a ?b ?c; (case c => assumption); (case b => assumption); (case a => assumption))); (case m => (intro p hp; repeat (first | exact hp | apply List.Mem.tail)))))); intro h' u' tk' F' N'))
set_option maxRecDepth 100000 in
set_option maxHeartbeats 8000000 in
theorem floor01f {w : World} {mean : ExcName → Option Value} {mg mb : Str → Option Value} {cn : Str} {cs : Scope} {a : Addr} {ccd : Value} {base h₀ : Heap} {L : Addr} {m : Str → Option Value} {ta : Addr} {ot : Obj} {tw : List (Addr × Obj)} {s : Shared} {v : Value} {t : Tok} {k : Int}
    {Q E : Value → Shared → Prop}
    (B : Below callerA base [] h₀) (F : Fr h₀ L s.heap m) (X : (hd06.heap_39 w.params).In h₀) (N : News h₀ L s.heap ((ta, ot) :: tw)) (T : Top hd06.view_39 (looseW hd06.view_39 []) mean mg mb h₀) (hk : cs.kind = .function) (hk0 : 0 ≤ k) (hk2 : k < 2) {as : List Addr} {rt : Str} {ht : Heap} (hC : Cov ht h₀ tw) (hT : Truth ht v false) (hR : Rep as ht 1 v rt)
    (ret : ∀ x own h' tk', Fr h₀ L h' m → News h₀ L h' ((ta, ot) :: (own ++ tw)) → (∃ u, ∀ h'' : Heap, (∀ p ∈ own, h''.get? p.1 = some p.2) → FloorAt h'' 63 "line" (.str rt u) x) → NeAll x tw → NeAll ta own → OwnNe own tw → Q (.ref x) { s with heap := h', toks := tk' }) :
    wpAny (model prog06 w) (callerA.deeper (envOf cn cs L a ccd)) (call (.ref 72) [.int k t, v]) Q E s := by
  have hfill : PySem.Challenge.rw_dm0148_06.about = PySem.Challenge.rw_dm0148_06.about ∧ hd06.heap_39 = hd06.heap_39 := by k_fill; exact ⟨rfl, rfl⟩
  clear hfill
  refine wpAny_call ?_
  k_dflt ktr_enter
  w_strict (k_steps)

  (rename News h₀ L _ _ => kN)
  exact ret _ [_, _, _, _] _ _ (by assumption) (fun p hp => kN p (own_mid hp)) ⟨_, fun h'' kb => ⟨_, _, _, _, _, _, _, (own_get kb (by k_mem)), rfl, (own_get kb (by k_mem)), (own_get kb (by k_mem))⟩⟩ (by assumption) (by repeat' (first | exact neNil | refine neCons (by omega) ?_)) (by repeat' (first | exact ownNil | refine ownCons (by first | assumption | exact neAll_lt (And.right (by assumption)) | exact neAll_lt (And.right (And.right (by assumption))) | exact neAll_lt (And.right (And.right (And.right (by assumption)))) | exact neAll_lt (And.right (And.right (And.right (And.right (by assumption)))))) ?_))
end Mine
end

-- Truths
section
open PySem PySem.W PyProof.Rows PySem.Spec PySem.Calls
set_option maxRecDepth 100000
set_option linter.unusedVariables false
namespace Mine

section
variable {h : Heap} {a : Addr} {n : Nat} {t : Tok}
theorem truth_none : Truth h .none false := fun prog w A Q E s hu hk hQ => truthy_none (hQ s.toks)
theorem truth_false : Truth h (.bool false) false := fun prog w A Q E s hu hk hQ => wpAny_truthy_bool (hQ s.toks)
theorem truth_zero : Truth h (.int 0 t) false := fun prog w A Q E s hu hk hQ => PySem.P.truthy_int (hQ s.toks)
theorem truth_bytes : Truth h (.bytes #[] t) false := fun prog w A Q E s hu hk hQ => truthy_bytes (by decide) (hQ _)
theorem truth_str0 : Truth h (.str (Str.ofString "") t) false := fun prog w A Q E s hu hk hQ => PySem.P.truthy_str (by decide) (hQ _)
theorem truth_str9 : Truth h (.str (Str.ofString "a b") t) true := fun prog w A Q E s hu hk hQ => PySem.P.truthy_str (by decide) (hQ _)
theorem truth_list0 (ha : h.get? a = some ⟨.type "list", none, .seq #[] n, #[]⟩) : Truth h (.ref a) false := fun prog w A Q E s hu hk hQ => wpAny_truthy_list (items := #[]) ⟨_, hk _ _ ha, rfl, n, rfl⟩ (by decide) (hQ _)
theorem truth_list1 {y : Value} (ha : h.get? a = some ⟨.type "list", none, .seq #[y] n, #[]⟩) : Truth h (.ref a) true := fun prog w A Q E s hu hk hQ => wpAny_truthy_list (items := #[y]) ⟨_, hk _ _ ha, rfl, n, rfl⟩ (by show (1 : Int) < 2 ^ 63; decide) (hQ _)
theorem truth_tuple0 (ha : h.get? a = some ⟨.type "tuple", none, .seq #[] n, #[]⟩) : Truth h (.ref a) false := fun prog w A Q E s hu hk hQ => truthy_tuple (items := #[]) ⟨_, hk _ _ ha, rfl, n, rfl⟩ (by decide) (hQ _)
theorem truth_tuple1 {y : Value} (ha : h.get? a = some ⟨.type "tuple", none, .seq #[y] n, #[]⟩) : Truth h (.ref a) true := fun prog w A Q E s hu hk hQ => truthy_tuple (items := #[y]) ⟨_, hk _ _ ha, rfl, n, rfl⟩ (by show (1 : Int) < 2 ^ 63; decide) (hQ _)
theorem truth_dict0 (ha : h.get? a = some ⟨.type "dict", none, .dict #[] n, #[]⟩) (hs : a ≠ sysModules) : Truth h (.ref a) false := fun prog w A Q E s hu hk hQ =>
  wpAny_truthy_dict (knd := strKind prog w) (kvs := []) (beq_eq_false_iff_ne.mpr hs) ⟨_, #[], n, hk _ _ ha, ⟨rfl, rfl, rfl⟩, rfl, (by intro e he; cases he <;> simp_all), (by constructor), (by simp)⟩ (by decide) (hQ _)

theorem noBool_ba : typeLookup (.type "bytearray") "__bool__" = pure none := by rw [typeLookup_type, builtinLookup_eq_fast]; kernel_rfl
theorem slot_al : Slot "bytearray" "__len__" "bytearray.__len__" :=
  .of (owner := "bytearray") (n := "__len__") (by rw [typeLookup_type, builtinLookup_eq_fast]; kernel_rfl) (by decide +kernel) (by decide +kernel) (by decide +kernel) (by first | exact .inl (by decide +kernel) | exact .inr (by decide +kernel)) (by rw [isSubtype_type]; kernel_rfl)
theorem entry_al : entryFor table "bytearray.__len__" = some Builtin.«bytearray.__len__» := entryFor_of_tree (by kernel_rfl)
theorem args_al (a : Value) : argsOk "bytearray.__len__" ⟨[a], []⟩ := by unfold argsOk; kernel_rfl
theorem truth_ba (ha : h.get? a = some baObj) : Truth h (.ref a) false := by
  intro prog w A Q E s hu hk hQ
  have ha' := hk _ _ ha
  have hT : s.TypeIs (.ref a) "bytearray" := ⟨_, ha', rfl⟩
  obtain ⟨hh, g, d, tk, os⟩ := s
  dsimp only at ha'
  unfold truthy
  refine wpAny_bind (wpAny_callSpecial?_none (name := Str.ofString "__bool__") hT noBool_ba ?_)
  refine wpAny_bind (wpAny_specialOf (name := Str.ofString "__len__") hT slot_al.lookup ?_)
  refine wpAny_bind (wpAny_runValue (codeAny_builtin entry_len ?_))
  unfold Builtin.«len»
  refine wpAny_bind (m := oneArg "len" _) (wpAny_pure ?_)
  refine wpAny_bind (m := callSpecial? (.ref a) (Str.ofString "__len__")) (wpAny_callSpecial?_slot (name := Str.ofString "__len__") hT slot_al (wpAny_call_entry slot_al hT entry_al ?_ (args_al _)))
  unfold Builtin.«bytearray.__len__»
  repeat lk
  refine ⟨_, rfl, ?_⟩
  refine wpAny_bind (wpAny_holding (wpAny_pure ?_))
  refine wpAny_bind (wpAny_letGo ?_)
  show wpAny _ _ (if ((0 : Nat) : Int) < 0 then _ else _) _ _ _
  rw [if_neg (by omega)]
  show wpAny _ _ (if ((0 : Nat) : Int) ≥ 2 ^ 63 then _ else _) _ _ _
  rw [if_neg (by omega)]
  exact wpAny_bind (wpAny_mkInt (wpAny_pure (wpAny_pure (hQ _))))

theorem truth_exc {K : Frag} {C e : Addr} {y : Value} (X : K.In h) (x : ExcOne h e C y) (hb : findIn K (.ref C) "__bool__" = some none) (hl : findIn K (.ref C) "__len__" = some none) : Truth h (.ref e) true := by
  intro prog w A Q E s hu hk hQ
  have Lt := (exc_looks_type (M := model prog w) x).keeps hk
  have X' := X.keeps hk
  unfold truthy
  refine wpAny_bind (m := callSpecial? (.ref e) (Str.ofString "__bool__")) (wpAny_bind (wpAny_bind (Lt.here ((looks_findIn X' hb).here (wpAny_pure ?_)))))
  refine wpAny_bind (wpAny_bind (Lt.here ((looks_findIn X' hl).here ?_)))
  exact wpAny_pure (hQ s.toks)
end
theorem bool63 (P : Params) : findIn (hd06.heap_39 P) (.ref 63) "__bool__" = some none := by kernel_rfl
theorem len63 (P : Params) : findIn (hd06.heap_39 P) (.ref 63) "__len__" = some none := by kernel_rfl
theorem bool44 (P : Params) : findIn (hd06.heap_39 P) (.ref 44) "__bool__" = some none := by kernel_rfl
theorem len44 (P : Params) : findIn (hd06.heap_39 P) (.ref 44) "__len__" = some none := by kernel_rfl
theorem bool24 (P : Params) : findIn (hd06.heap_39 P) (.ref 24) "__bool__" = some none := by kernel_rfl
theorem len24 (P : Params) : findIn (hd06.heap_39 P) (.ref 24) "__len__" = some none := by kernel_rfl
end Mine
end

-- Ast06
section
open PySem PySem.W PyProof.Rows PySem.Spec PySem.Calls
set_option linter.unusedVariables false
namespace Mine
def nthS (l : List Stmt) (i : Nat) : Stmt := l.getD i (.Pass default)
def suite : Stmt → List Stmt
  | .For _ _ b _ _ => b
  | .FunctionDef _ _ b _ _ _ _ _ _ _ => b
  | _ => []
def scopeS : Stmt → Scope
  | .FunctionDef _ _ _ _ _ _ sc _ _ _ => sc
  | _ => default
def lawDef : Stmt := nthS PySem.Challenge.pw_dm0148_06.main.body 6
def lawScope : Scope := scopeS lawDef
def lawB : List Stmt := suite lawDef
def pickFor : Stmt := nthS lawB 4
def firstFor : Stmt := nthS (suite pickFor) 0
def roundB : List Stmt := suite firstFor
def kindFor : Stmt := nthS roundB 6
def kindB : List Stmt := suite kindFor
def showIf : Stmt := nthS roundB 7
def checkFor : Stmt := nthS roundB 8
def checkB : List Stmt := suite checkFor
end Mine
end

-- Turn06
section
open PySem PySem.W PyProof.Rows PySem.Spec PySem.Calls
set_option linter.unusedVariables false
namespace Mine
/-- what the new floor of kind k above v is -/
def FloorK (h : Heap) (k : Int) (v : Value) (x : Addr) : Prop :=
  (k < 2 → FloorAt h 63 "line" v x) ∧ (k = 2 → FloorAt h 44 "version" v x) ∧ (k = 3 → ExcOne h x 24 v) ∧
  (k = 4 → h.get? x = some ⟨.type "list", none, .seq #[v] 0, #[]⟩) ∧ (k = 5 → h.get? x = some ⟨.type "tuple", none, .seq #[v] 0, #[]⟩)

abbrev mapK (m₀ : Str → Option Value) (na ta : Addr) (k : Int) (t : Tok) (nm wd : Value) : Str → Option Value :=
  fun y => if y = Str.ofString "names" then some (.ref na) else if y = Str.ofString "things" then some (.ref ta) else if y = Str.ofString "kind" then some (.int k t) else if y = Str.ofString "name" then some nm else if y = Str.ofString "words" then some wd else m₀ y

section
variable {prog : Program} {w : World} {A : Around} {E : Value → Shared → Prop} {s : Shared} {h₀ : Heap} {L ta : Addr} {m : Str → Option Value} {news news' : List (Addr × Obj)} {ts : List Value} {v x : Value} {n : Nat} {Q : Value → Shared → Prop}
theorem last_item {value slice : Expr} {u : Tok} (N : News h₀ L s.heap news) (hm : (ta, W.listOf (ts ++ [v]).toArray n) ∈ news) (hz : ts.length ≤ 1000) (h : Q v s)
    (hs : subscripted slice false (.ref ta) (.int (-1) u) = operate [.ref ta, .int (-1) u] (getItem (.ref ta) (.int (-1) u)) := by with_unfolding_all rfl) :
    wpAny (model prog w) A (subscriptTail value slice (.ref ta) (.int (-1) u)) Q E s := by
  have hl : s.heap.IsList ta (ts ++ [v]).toArray := ⟨_, (N _ hm).1, rfl, n, rfl⟩
  have hsz : (ts ++ [v]).toArray.size = ts.length + 1 := by simp
  refine tail_any hl.typeIs slot_list_getitem.lookup (wpAny_getItem_list_neg hl (by omega) (by omega) (by omega) ?_ h) hs
  have e : (-1 + ((ts ++ [v]).toArray.size : Int)).toNat = ts.length := by rw [hsz]; omega
  rw [e]; simp
theorem append_last {tw : List (Addr × Obj)} (F : Fr h₀ L s.heap m) (N : News h₀ L s.heap ((ta, W.listOf (ts ++ [v]).toArray n) :: tw)) (hz : ts.length ≤ 1000) (hne : NeAll ta tw)
    (h : ∀ h', Fr h₀ L h' m → News h₀ L h' ((ta, W.listOf ((ts ++ [v]) ++ [x]).toArray (n + 1)) :: tw) → Q .none { s with heap := h' }) : wpAny (model prog w) A (call (.builtin "list.append") [.ref ta, x]) Q E s := by
  have e : ((ts ++ [v]).toArray).push x = ((ts ++ [v]) ++ [x]).toArray := by simp
  have hsz : (ts ++ [v]).toArray.size = ts.length + 1 := by simp
  have z := N (ta, W.listOf (ts ++ [v]).toArray n) (.head _)
  refine append_at (hsz := by rw [hsz, sizeLine_eq]; omega) z.1 fun h' hs ho' => ?_
  rw [e] at ho'
  refine h h' (F.change hs z.2.1 z.2.2) (fun p hp => ?_)
  rcases List.mem_cons.mp hp with rfl | hp
  · exact ⟨ho', z.2⟩
  · have P := N p (.tail _ hp); exact ⟨(hs.2 p.1 (hne p hp)).trans P.1, P.2⟩
theorem neAll_app {x : Addr} {a b : List (Addr × Obj)} (h1 : NeAll x a) (h2 : NeAll x b) : NeAll x (a ++ b) := fun p hp => (List.mem_append.mp hp).elim (h1 p) (h2 p)
end
theorem item_news {prog : Program} {w : World} {A : Around} {E : Value → Shared → Prop} {s : Shared} {h₀ : Heap} {L l : Addr} {value slice : Expr} {its : Array Value} {k : Int} {u : Tok} {v : Value} {Q : Value → Shared → Prop} {news tw : List (Addr × Obj)} {nn : Nat} (hm : (l, W.listOf its nn) ∈ tw) (N : News h₀ L s.heap news) (hsub : ∀ p ∈ tw, p ∈ news)
    (h0 : 0 ≤ k) (hk : k < 2 ^ 63) (hx : its[k.toNat]? = some v) (h : Q v s)
    (hs : subscripted slice false (.ref l) (.int k u) = operate [.ref l, .int k u] (getItem (.ref l) (.int k u)) := by with_unfolding_all rfl) :
    wpAny (model prog w) A (subscriptTail value slice (.ref l) (.int k u)) Q E s :=
  have hl' : s.heap.IsList l its := ⟨_, (N _ (hsub _ hm)).1, rfl, nn, rfl⟩
  tail_any hl'.typeIs slot_list_getitem.lookup (wpAny_getItem_list hl' h0 hk hx h) hs
local macro_rules | `(tactic| walk_at "subscriptTail Name Name ref int") => `(tactic| (k_here; k_dflt (first
  | (refine' item_news (v := Value.str (PySem.Str.ofString "BadStatusLine") _) ?k1 ?k2 ?k7 ?k3 ?k4 ?k5 ?_ ?k6; (case k1 => assumption); (case k2 => k_asm); (case k7 => (intro p hp; repeat (first | exact hp | apply List.Mem.tail))); (case k3 => decide); (case k4 => decide); (case k5 => exact rfl); (case k6 => with_unfolding_all rfl))
  | (refine' item_news (v := Value.str (PySem.Str.ofString "UnknownProtocol") _) ?k1 ?k2 ?k7 ?k3 ?k4 ?k5 ?_ ?k6; (case k1 => assumption); (case k2 => k_asm); (case k7 => (intro p hp; repeat (first | exact hp | apply List.Mem.tail))); (case k3 => decide); (case k4 => decide); (case k5 => exact rfl); (case k6 => with_unfolding_all rfl))
  | (refine' item_news (v := Value.str (PySem.Str.ofString "HTTPException") _) ?k1 ?k2 ?k7 ?k3 ?k4 ?k5 ?_ ?k6; (case k1 => assumption); (case k2 => k_asm); (case k7 => (intro p hp; repeat (first | exact hp | apply List.Mem.tail))); (case k3 => decide); (case k4 => decide); (case k5 => exact rfl); (case k6 => with_unfolding_all rfl)))))
local macro_rules | `(tactic| walk_at "subscriptTail Name UnaryOp") => `(tactic| (k_here; k_dflt (refine' last_item ?k1 ?k2 ?k3 ?_ ?k5; (case k1 => k_asm); (case k2 => k_mem); (case k3 => assumption); (case k5 => with_unfolding_all rfl))))
local macro_rules | `(tactic| walk_at "call builtin:list.append") => `(tactic| (k_here; k_dflt (refine' append_last ?k1 ?k2 ?k4 ?k5 ?_; (case k1 => k_asm); (case k2 => k_asm); (case k4 => assumption); (case k5 => exact neAll_app (by assumption) (by assumption))); intro h' F' N'))
local macro_rules | `(tactic| walk_at "call ref") => `(tactic| (k_here; (with_reducible show wpAny _ _ (call (Value.ref 72) _) _ _ _); k_dflt (first
  | (refine' floor01 ?k1 ?k2 ?k3 ?k4 ?k5 ?k6 ?k7 ?k8 ?kc ?k9 ?_; (case kc => assumption); (case k1 => k_asm); (case k2 => k_asm); (case k3 => k_asm); (case k4 => k_asm); (case k5 => k_asm); (case k6 => exact rfl); (case k7 => decide); (case k8 => decide); (case k9 => assumption))
  | (refine' floor2 ?k1 ?k2 ?k3 ?k4 ?k5 ?k6 ?_; (case k1 => k_asm); (case k2 => k_asm); (case k3 => k_asm); (case k4 => k_asm); (case k5 => k_asm); (case k6 => exact rfl))
  | (refine' floor3 ?k1 ?k2 ?k3 ?k4 ?k5 ?k6 ?_; (case k1 => k_asm); (case k2 => k_asm); (case k3 => k_asm); (case k4 => k_asm); (case k5 => k_asm); (case k6 => exact rfl))
  | (refine' floor4 ?k1 ?k2 ?k3 ?k4 ?k5 ?k6 ?_; (case k1 => k_asm); (case k2 => k_asm); (case k3 => k_asm); (case k4 => k_asm); (case k5 => k_asm); (case k6 => exact rfl))
  | (refine' floor5 ?k1 ?k2 ?k3 ?k4 ?k5 ?k6 ?_; (case k1 => k_asm); (case k2 => k_asm); (case k3 => k_asm); (case k4 => k_asm); (case k5 => k_asm); (case k6 => exact rfl))); intro x' own' h' tk' F' N' G' hn' ho' hq'))

/-- the texts behind a floor of kind k -/
def nameK (k : Int) (nm : Str) : Str := if k < 2 then "BadStatusLine" ++ "(" ++ nm ++ ")" else if k = 2 then "UnknownProtocol" ++ "(" ++ nm ++ ")" else if k = 3 then "HTTPException" ++ "(" ++ nm ++ ")" else if k = 4 then "[" ++ nm ++ "]" else "(" ++ nm ++ ",)"
def wordK (k : Int) (nm wd : Str) : Str := if k < 4 then wd else nameK k nm
abbrev namesL (t0 t1 t2 t3 : Tok) : Array Value := #[.str (Str.ofString "BadStatusLine") t0, .str (Str.ofString "BadStatusLine") t1, .str (Str.ofString "UnknownProtocol") t2, .str (Str.ofString "HTTPException") t3]

set_option maxRecDepth 100000 in
set_option maxHeartbeats 3000000 in
theorem kind_turn {w : World} {mean : ExcName → Option Value} {mg mb : Str → Option Value} {a : Addr} {ccd : Value} {base h₀ : Heap} {L : Addr} {m₀ : Str → Option Value} {na ta : Addr} {tw : List (Addr × Obj)} {nn : Nat} {ht : Heap} {ts : List Value} {n : Nat} {s : Shared} {v : Value} {t u1 u2 t0 t1 t2 t3 : Tok} {nm wd : Str} {k : Int}
    {Q : Flow → Shared → Prop} {E : Value → Shared → Prop}
    (B : Below callerA base [] h₀) (F : Fr h₀ L s.heap (mapK m₀ na ta k t (.str nm u1) (.str wd u2))) (X : (hd06.heap_39 w.params).In h₀) (N : News h₀ L s.heap ((ta, W.listOf (ts ++ [v]).toArray n) :: tw)) (T : Top hd06.view_39 (looseW hd06.view_39 []) mean mg mb h₀)
    (hnl : nm.length ≤ 10000) (htl : ts.length ≤ 1000) (hna : (na, W.listOf (namesL t0 t1 t2 t3) nn) ∈ tw) (hne : NeAll ta tw) (hC : Cov ht h₀ tw) (hTt : k < 2 → Truth ht v true) (h0 : 0 ≤ k) (h6 : k < 6)
    (fin : ∀ x own h' tk' m' u1' u2', Fr h₀ L h' m' → m' (Str.ofString "name") = some (.str (nameK k nm) u1') → m' (Str.ofString "words") = some (.str (wordK k nm wd) u2') → (∀ y, y ≠ Str.ofString "name" → y ≠ Str.ofString "words" → m' y = mapK m₀ na ta k t (.str nm u1) (.str wd u2) y) →
      News h₀ L h' ((ta, W.listOf ((ts ++ [v]) ++ [Value.ref x]).toArray (n + 1)) :: (own ++ tw)) → (∀ h'' : Heap, (∀ p ∈ own, h''.get? p.1 = some p.2) → FloorK h'' k v x) → NeAll x tw → NeAll ta own → OwnNe own tw → Q .next { s with heap := h', toks := tk' }) :
    wpAny (model prog06 w) (callerA.deeper (envOf (Str.ofString "law") lawScope L a ccd)) (execs kindB (envOf (Str.ofString "law") lawScope L a ccd)) Q E s := by
  have hfill : PySem.Challenge.rw_dm0148_06.about = PySem.Challenge.rw_dm0148_06.about ∧ hd06.heap_39 = hd06.heap_39 := by k_fill; exact ⟨rfl, rfl⟩
  clear hfill
  have hc : k = 0 ∨ k = 1 ∨ k = 2 ∨ k = 3 ∨ k = 4 ∨ k = 5 := by omega
  conv in (execs _ _) => arg 1; whnf
  rcases hc with rfl | rfl | rfl | rfl | rfl | rfl
  all_goals (try have hT := hTt (by decide))
  all_goals w_strict (k_steps)
  all_goals (
    (rename ∀ h'' : Heap, (∀ p : Addr × Obj, p ∈ _ → h''.get? p.1 = some p.2) → _ => kG)
    refine fin _ _ _ _ _ _ _ (by assumption) (by rfl) (by rfl) (by intro y h1 h2; (try simp only [if_neg h1, if_neg h2])) (by assumption) (fun h'' k2 => ?_) (by assumption) (by assumption) (by assumption)
    (have kG := kG h'' k2)
    refine ⟨?_, ?_, ?_, ?_, ?_⟩)
  all_goals (intro e; first | exact absurd e (by decide) | exact kG)
local macro_rules | `(tactic| walk_at "call ref") => `(tactic| (k_here; (with_reducible show wpAny _ _ (call (Value.ref 72) _) _ _ _); k_dflt
  (refine' floor01f ?k1 ?k2 ?k3 ?k4 ?k5 ?k6 ?k7 ?k8 ?kc ?k9 ?k10 ?_; (case kc => assumption); (case k1 => k_asm); (case k2 => k_asm); (case k3 => k_asm); (case k4 => k_asm); (case k5 => k_asm); (case k6 => exact rfl); (case k7 => decide); (case k8 => decide); (case k9 => assumption); (case k10 => assumption)); intro x' own' h' tk' F' N' G' hn' ho' hq'))
set_option maxRecDepth 100000 in
set_option maxHeartbeats 3000000 in
theorem kind_turn0f {w : World} {mean : ExcName → Option Value} {mg mb : Str → Option Value} {a : Addr} {ccd : Value} {base h₀ : Heap} {L : Addr} {m₀ : Str → Option Value} {na ta : Addr} {tw : List (Addr × Obj)} {nn : Nat} {ht : Heap} {ts : List Value} {n : Nat} {s : Shared} {v : Value} {t u1 u2 t0 t1 t2 t3 : Tok} {nm wd : Str} {as : List Addr} {rt : Str}
    {Q : Flow → Shared → Prop} {E : Value → Shared → Prop}
    (B : Below callerA base [] h₀) (F : Fr h₀ L s.heap (mapK m₀ na ta 0 t (.str nm u1) (.str wd u2))) (X : (hd06.heap_39 w.params).In h₀) (N : News h₀ L s.heap ((ta, W.listOf (ts ++ [v]).toArray n) :: tw)) (T : Top hd06.view_39 (looseW hd06.view_39 []) mean mg mb h₀)
    (hnl : nm.length ≤ 10000) (htl : ts.length ≤ 1000) (hna : (na, W.listOf (namesL t0 t1 t2 t3) nn) ∈ tw) (hne : NeAll ta tw) (hC : Cov ht h₀ tw) (hT : Truth ht v false) (hR : Rep as ht 1 v rt)
    (fin : ∀ x own h' tk' m' u1' u2', Fr h₀ L h' m' → m' (Str.ofString "name") = some (.str (nameK 0 nm) u1') → m' (Str.ofString "words") = some (.str (wordK 0 nm wd) u2') → (∀ y, y ≠ Str.ofString "name" → y ≠ Str.ofString "words" → m' y = mapK m₀ na ta 0 t (.str nm u1) (.str wd u2) y) →
      News h₀ L h' ((ta, W.listOf ((ts ++ [v]) ++ [Value.ref x]).toArray (n + 1)) :: (own ++ tw)) → (∃ u, ∀ h'' : Heap, (∀ p ∈ own, h''.get? p.1 = some p.2) → FloorAt h'' 63 "line" (.str rt u) x) → NeAll x tw → NeAll ta own → OwnNe own tw → Q .next { s with heap := h', toks := tk' }) :
    wpAny (model prog06 w) (callerA.deeper (envOf (Str.ofString "law") lawScope L a ccd)) (execs kindB (envOf (Str.ofString "law") lawScope L a ccd)) Q E s := by
  have hfill : PySem.Challenge.rw_dm0148_06.about = PySem.Challenge.rw_dm0148_06.about ∧ hd06.heap_39 = hd06.heap_39 := by k_fill; exact ⟨rfl, rfl⟩
  clear hfill
  conv in (execs _ _) => arg 1; whnf
  w_strict (k_steps)
  exact fin _ _ _ _ _ _ _ (by assumption) (by rfl) (by rfl) (by intro y h1 h2; (try simp only [if_neg h1, if_neg h2])) (by assumption) (by assumption) (by assumption) (by assumption) (by assumption)
end Mine
end

-- Tower06
section
open PySem PySem.W PyProof.Rows PySem.Spec PySem.Calls
set_option linter.unusedVariables false
namespace Mine
/-- P holds in every heap that has h₀ and the ledger -/
def On (h₀ : Heap) (tw : List (Addr × Obj)) (P : Heap → Prop) : Prop := ∀ h : Heap, Kp h₀ h → (∀ p ∈ tw, h.get? p.1 = some p.2) → P h
theorem On.sub {h₀ : Heap} {tw tw' : List (Addr × Obj)} {P : Heap → Prop} (H : On h₀ tw P) (s : ∀ p ∈ tw, p ∈ tw') : On h₀ tw' P := fun h k hs => H h k fun p hp => hs p (s p hp)

def KeepP (h₀ : Heap) (tw : List (Addr × Obj)) (i : Addr) : Prop := (∃ o, h₀.get? i = some o) ∨ (∃ o, (i, o) ∈ tw)
open Classical in
noncomputable def cut (h₀ h : Heap) (tw : List (Addr × Obj)) : Heap := { objs := h.objs.mapIdx fun i o => if KeepP h₀ tw i then o else ⟨.none, none, .freed, #[]⟩ }
theorem cut_in {h₀ h : Heap} {tw : List (Addr × Obj)} {b : Addr} (hb : KeepP h₀ tw b) : (cut h₀ h tw).get? b = h.get? b := by
  unfold cut Heap.get?
  simp only [Array.getElem?_mapIdx]
  cases h.objs[b]? with
  | none => rfl
  | some o => simp only [Option.map_some, if_pos hb]
theorem cut_out {h₀ h : Heap} {tw : List (Addr × Obj)} {b : Addr} (hb : ¬ KeepP h₀ tw b) : (cut h₀ h tw).get? b = none := by
  unfold cut Heap.get?
  simp only [Array.getElem?_mapIdx]
  cases h.objs[b]? with
  | none => rfl
  | some o => simp only [Option.map_some, if_neg hb]
theorem exists_cov {h₀ h : Heap} {tw : List (Addr × Obj)} (k : Kp h₀ h) (hs : ∀ p ∈ tw, h.get? p.1 = some p.2) : ∃ ht, Cov ht h₀ tw ∧ Kp h₀ ht ∧ ∀ p ∈ tw, ht.get? p.1 = some p.2 := by
  refine ⟨cut h₀ h tw, fun b o e => ?_, fun b o e => (cut_in (.inl ⟨o, e⟩)).trans (k b o e), fun p hp => (cut_in (.inr ⟨p.2, hp⟩)).trans (hs p hp)⟩
  by_cases hb : KeepP h₀ tw b
  · rw [cut_in hb] at e
    rcases hb with ⟨o', q⟩ | ⟨o', q⟩
    · have := k b o' q; rw [e] at this; cases this; exact .inl q
    · have := hs _ q; rw [e] at this; cases this; exact .inr q
  · rw [cut_out hb] at e; cases e

/-- the top of the tower: what it shows -/
def TopV (h₀ : Heap) (tw : List (Addr × Obj)) (d : Nat) (v : Value) (nm wd : Str) : Prop := ∃ as : List Addr, (∀ a ∈ as, ∃ o, (a, o) ∈ tw) ∧ On h₀ tw fun h => Shows as h d v nm wd ∧ Truth h v true

theorem len_lit (s : String) : (Str.ofString s).length = (Str.ofString s).length := rfl

section
variable {P : Params} {h : Heap} {as : List Addr} {d : Nat} {v : Value} {nm wd : Str} {k : Int} {x : Addr}
def asK (k : Int) (x : Addr) (as : List Addr) : List Addr := if k < 4 then as else x :: as
theorem nameK_len : (nameK k nm).length ≤ nm.length + 20 := by
  unfold nameK
  split
  · simp only [strLen_append]; have : (Str.ofString "BadStatusLine").length = 13 := by decide
    have : (Str.ofString "(").length = 1 := by decide
    have : (Str.ofString ")").length = 1 := by decide
    omega
  · split
    · simp only [strLen_append]; have : (Str.ofString "UnknownProtocol").length = 15 := by decide
      have : (Str.ofString "(").length = 1 := by decide
      have : (Str.ofString ")").length = 1 := by decide
      omega
    · split
      · simp only [strLen_append]; have : (Str.ofString "HTTPException").length = 13 := by decide
        have : (Str.ofString "(").length = 1 := by decide
        have : (Str.ofString ")").length = 1 := by decide
        omega
      · split
        · simp only [strLen_append]
          have : (Str.ofString "[").length = 1 := by decide
          have : (Str.ofString "]").length = 1 := by decide
          omega
        · simp only [strLen_append]
          have : (Str.ofString "(").length = 1 := by decide
          have : (Str.ofString ",)").length = 2 := by decide
          omega
theorem shows_floor (X : (hd06.heap_39 P).In h) (hsz : nm.length ≤ 9000) (h0 : 0 ≤ k) (h6 : k < 6) (G : FloorK h k v x) (hx : x ∉ as)
    (R : RepU as h d v nm) (W : (∃ u, v = .str wd u) ∨ ((∀ a b, v ≠ .str a b) ∧ StrC as h (d + 1) v wd)) : Shows (asK k x as) h (d + 1) (.ref x) (nameK k nm) (wordK k nm wd) ∧ Truth h (.ref x) true := by
  have hl : (nameK k nm).length ≤ sizeLine := Nat.le_trans nameK_len (by rw [sizeLine_eq]; omega)
  obtain ⟨g0, g2, g3, g4, g5⟩ := G
  have hc : k = 0 ∨ k = 1 ∨ k = 2 ∨ k = 3 ∨ k = 4 ∨ k = 5 := by omega
  rcases hc with rfl | rfl | rfl | rfl | rfl | rfl
  · have g := (g0 (by decide)).one
    have z := shows_exc X (show63 P) g R W (by rw [name63]; exact hl)
    rw [name63] at z
    exact ⟨z, truth_exc X g (bool63 P) (len63 P)⟩
  · have g := (g0 (by decide)).one
    have z := shows_exc X (show63 P) g R W (by rw [name63]; exact hl)
    rw [name63] at z
    exact ⟨z, truth_exc X g (bool63 P) (len63 P)⟩
  · have g := (g2 rfl).one
    have z := shows_exc X (show44 P) g R W (by rw [name44]; exact hl)
    rw [name44] at z
    exact ⟨z, truth_exc X g (bool44 P) (len44 P)⟩
  · have g := g3 rfl
    have z := shows_exc X (show24 P) g R W (by rw [name24]; exact hl)
    rw [name24] at z
    exact ⟨z, truth_exc X g (bool24 P) (len24 P)⟩
  · exact ⟨shows_list (g4 rfl) hx R hl, truth_list1 (g4 rfl)⟩
  · exact ⟨shows_tuple (g5 rfl) hx R hl, truth_tuple1 (g5 rfl)⟩
end

/-- a floor's address lies in its own ledger -/
theorem floor_own {own : List (Addr × Obj)} {h : Heap} {k : Int} {v : Value} {x : Addr} (h0 : 0 ≤ k) (h6 : k < 6) (G : ∀ h'' : Heap, (∀ p ∈ own, h''.get? p.1 = some p.2) → FloorK h'' k v x) (hs : ∀ p ∈ own, h.get? p.1 = some p.2) : ∃ o, (x, o) ∈ own := by
  obtain ⟨ht, C, _, ho⟩ := exists_cov (h₀ := {}) (h := h) (tw := own) (fun b o e => by cases e) hs
  have hg : ∃ o, ht.get? x = some o := by
    obtain ⟨g0, g2, g3, g4, g5⟩ := G ht ho
    have hc : k < 2 ∨ k = 2 ∨ k = 3 ∨ k = 4 ∨ k = 5 := by omega
    rcases hc with q | q | q | q | q
    · obtain ⟨dx, vs, sl, ty, n, hs, tk, a, _⟩ := (g0 q).ex; exact ⟨_, a⟩
    · obtain ⟨dx, vs, sl, ty, n, hs, tk, a, _⟩ := (g2 q).ex; exact ⟨_, a⟩
    · obtain ⟨dd, vs, sl, ty, n, a, _⟩ := (g3 q).ex; exact ⟨_, a⟩
    · exact ⟨_, g4 q⟩
    · exact ⟨_, g5 q⟩
  obtain ⟨o, e⟩ := hg
  rcases C x o e with q | q
  · cases q
  · exact ⟨o, q⟩

/-- the state of the tower behind some turns -/
structure St (h₀ : Heap) (tw0 : List (Addr × Obj)) (ta : Addr) (b0 : Value) (done : List Int) (ts : List Value) (v : Value) (nm wd : Str) (tw : List (Addr × Obj)) : Prop where
  sub : ∀ p ∈ tw0, p ∈ tw
  ne : NeAll ta tw
  pos : 0 < ts.length
  len : done.length = ts.length
  sz : nm.length ≤ 100 + 20 * ts.length
  top : TopV h₀ tw (ts.length + 2) v nm wd
  fl : ∀ i k, done[i]? = some k → ∃ x, (ts ++ [v])[i + 1]? = some (.ref x) ∧ On h₀ tw fun h => FloorK h k (if i = 0 then b0 else (ts ++ [v]).getD i .none) x

theorem St.step {P : Params} {h₀ h : Heap} {L : Addr} {tw0 tw own : List (Addr × Obj)} {ta x : Addr} {b0 v : Value} {done : List Int} {ts : List Value} {nm wd : Str} {k : Int} {n : Nat} (S : St h₀ tw0 ta b0 done ts v nm wd tw) (X : (hd06.heap_39 P).In h₀)
    (N : News h₀ L h ((ta, W.listOf ((ts ++ [v]) ++ [Value.ref x]).toArray n) :: (own ++ tw))) (hl : ts.length ≤ 100) (h0 : 0 ≤ k) (h6 : k < 6) (G : ∀ h'' : Heap, (∀ p ∈ own, h''.get? p.1 = some p.2) → FloorK h'' k v x) (hn : NeAll x tw) (hto : NeAll ta own) :
    St h₀ tw0 ta b0 (done ++ [k]) (ts ++ [v]) (.ref x) (nameK k nm) (wordK k nm wd) (own ++ tw) := by
  obtain ⟨as, has, T⟩ := S.top
  have hxa : x ∉ as := fun hx => by obtain ⟨o, ho⟩ := has x hx; exact hn _ ho rfl
  have hown : ∃ o, (x, o) ∈ own := floor_own h0 h6 G fun p hp => (N p (.tail _ (List.mem_append_left _ hp))).1
  refine ⟨fun p hp => List.mem_append_right _ (S.sub p hp), neAll_app hto S.ne, by simp, by simp [S.len], ?_, ⟨asK k x as, ?_, ?_⟩, ?_⟩
  · have := S.sz; have := @nameK_len nm k; simp; omega
  · intro a ha
    unfold asK at ha
    split at ha
    · obtain ⟨o, ho⟩ := has a ha; exact ⟨o, List.mem_append_right _ ho⟩
    · rcases List.mem_cons.mp ha with rfl | ha
      · obtain ⟨o, ho⟩ := hown; exact ⟨o, List.mem_append_left _ ho⟩
      · obtain ⟨o, ho⟩ := has a ha; exact ⟨o, List.mem_append_right _ ho⟩
  · intro h'' k'' hs
    have t := (T h'' k'' fun p hp => hs p (List.mem_append_right _ hp)).1
    have e : (ts ++ [v]).length + 2 = (ts.length + 2) + 1 := by simp
    rw [e]
    exact shows_floor (X.keeps k'') (by have := S.sz; omega) h0 h6 (G h'' fun p hp => hs p (List.mem_append_left _ hp)) hxa t.u (.inr ⟨t.no, t.s⟩)
  · intro i k' hk
    by_cases hi : i < done.length
    · rw [List.getElem?_append_left hi] at hk
      obtain ⟨y, e1, e2⟩ := S.fl i k' hk
      have hi' : i + 1 < (ts ++ [v]).length := by simp; have := S.len; omega
      refine ⟨y, by rw [List.getElem?_append_left hi']; exact e1, ?_⟩
      have e3 : ((ts ++ [v]) ++ [Value.ref x]).getD i .none = (ts ++ [v]).getD i .none := by
        rw [List.getD_eq_getElem?_getD, List.getD_eq_getElem?_getD, List.getElem?_append_left (by omega)]
      rw [e3]
      exact e2.sub fun p hp => List.mem_append_right _ hp
    · have hi2 : i = done.length := by
        rcases Nat.lt_or_ge i (done ++ [k]).length with q | q
        · simp at q; omega
        · rw [List.getElem?_eq_none q] at hk; cases hk
      subst hi2
      have hk' : k = k' := by simpa using hk
      subst hk'
      have hlen := S.len
      have hp := S.pos
      refine ⟨x, by rw [hlen]; simp, ?_⟩
      rw [if_neg (by omega)]
      have e3 : ((ts ++ [v]) ++ [Value.ref x]).getD done.length .none = v := by
        rw [List.getD_eq_getElem?_getD, hlen]; simp
      rw [e3]
      exact fun h'' _ hs => G h'' fun p hp => hs p (List.mem_append_left _ hp)
end Mine
end

-- Loop06
section
open PySem PySem.W PyProof.Rows PySem.Spec PySem.Calls
set_option linter.unusedVariables false
namespace Mine
structure FK (m₀ : Str → Option Value) (nm wd : Str) (m : Str → Option Value) : Prop where
  name : ∃ u, m (Str.ofString "name") = some (.str nm u)
  words : ∃ u, m (Str.ofString "words") = some (.str wd u)
  rest : ∀ y, y ≠ Str.ofString "kind" → y ≠ Str.ofString "name" → y ≠ Str.ofString "words" → m y = m₀ y

theorem fk_map {m₀ m : Str → Option Value} {na ta : Addr} {nm wd : Str} {k : Int} {t : Tok} (H : FK m₀ nm wd m) (h1 : m₀ (Str.ofString "names") = some (.ref na)) (h2 : m₀ (Str.ofString "things") = some (.ref ta)) :
    ∃ u1 u2, (fun y => if y = Str.ofString "kind" then some (Value.int k t) else m y) = mapK m₀ na ta k t (.str nm u1) (.str wd u2) := by
  obtain ⟨⟨u1, e1⟩, ⟨u2, e2⟩, r⟩ := H
  refine ⟨u1, u2, funext fun y => ?_⟩
  unfold mapK
  by_cases c1 : y = Str.ofString "kind"
  · subst c1; rfl
  · rw [if_neg c1]
    by_cases c2 : y = Str.ofString "name"
    · subst c2; exact e1
    · by_cases c3 : y = Str.ofString "words"
      · subst c3; exact e2
      · rw [r y c1 c2 c3]
        by_cases c4 : y = Str.ofString "names"
        · subst c4; exact h1
        · by_cases c5 : y = Str.ofString "things"
          · subst c5; exact h2
          · rw [if_neg c4, if_neg c5, if_neg c1, if_neg c2, if_neg c3]
theorem fk_next {m₀ m' : Str → Option Value} {na ta : Addr} {nm wd nm' wd' : Str} {k : Int} {t u1 u2 u1' u2' : Tok} (h1 : m₀ (Str.ofString "names") = some (.ref na)) (h2 : m₀ (Str.ofString "things") = some (.ref ta))
    (e1 : m' (Str.ofString "name") = some (.str nm' u1')) (e2 : m' (Str.ofString "words") = some (.str wd' u2')) (e3 : ∀ y, y ≠ Str.ofString "name" → y ≠ Str.ofString "words" → m' y = mapK m₀ na ta k t (.str nm u1) (.str wd u2) y) : FK m₀ nm' wd' m' := by
  refine ⟨⟨_, e1⟩, ⟨_, e2⟩, fun y c1 c2 c3 => ?_⟩
  rw [e3 y c2 c3]
  unfold mapK
  by_cases c4 : y = Str.ofString "names"
  · subst c4; exact h1.symm
  · by_cases c5 : y = Str.ofString "things"
    · subst c5; exact h2.symm
    · rw [if_neg c4, if_neg c5, if_neg c1, if_neg c2, if_neg c3]

theorem news_set {h₀ h h' : Heap} {L : Addr} {news : List (Addr × Obj)} (N : News h₀ L h news) (sb : Heap.SameBut L h h') : News h₀ L h' news := fun p hp => ⟨(sb.2 _ (N p hp).2.1).trans (N p hp).1, (N p hp).2⟩

abbrev lawE (L a : Addr) (ccd : Value) : Env := envOf (Str.ofString "law") lawScope L a ccd
theorem kind_local {L a : Addr} {ccd : Value} : (lawE L a ccd).kindOf (Str.ofString "kind") = some .local := by kernel_rfl
theorem law_plain {L a : Addr} {ccd : Value} : ((lawE L a ccd).scope.kind == .class || ((lawE L a ccd).scope.kind == .module && (lawE L a ccd).locals != (lawE L a ccd).globals)) = false := by kernel_rfl

section
variable {w : World} {mean : ExcName → Option Value} {mg mb : Str → Option Value} {a : Addr} {ccd : Value} {base h₀ : Heap} {L : Addr} {m₀ : Str → Option Value} {na ta ka I : Addr} {lo : Obj} {nn : Nat} {t0 t1 t2 t3 : Tok} {tw0 : List (Addr × Obj)} {b0 : Value} {s : Shared} {Q : Flow → Shared → Prop} {E : Value → Shared → Prop} {px : Pos} {all : List Int}
theorem kinds_rest (B : Below callerA base [] h₀) (X : (hd06.heap_39 w.params).In h₀) (T : Top hd06.view_39 (looseW hd06.view_39 []) mean mg mb h₀)
    (hn0 : m₀ (Str.ofString "names") = some (.ref na)) (ht0 : m₀ (Str.ofString "things") = some (.ref ta)) (hna : (na, W.listOf (namesL t0 t1 t2 t3) nn) ∈ tw0) (hka : (ka, lo) ∈ tw0) (hall : all.length ≤ 90)
    (fin : ∀ ts v nm wd tw m n h tk, St h₀ tw0 ta b0 all ts v nm wd tw → FK m₀ nm wd m → Fr h₀ L h m → News h₀ L h ((ta, W.listOf (ts ++ [v]).toArray n) :: tw) → Q .next { s with heap := h, toks := tk }) :
    ∀ (ks : List (Int × Tok)) (done : List Int) (ts : List Value) (v : Value) (nm wd : Str) (tw : List (Addr × Obj)) (m : Str → Option Value) (n : Nat), (∀ k ∈ ks, 0 ≤ k.1 ∧ k.1 < 6) → done ++ ks.map Prod.fst = all → St h₀ tw0 ta b0 done ts v nm wd tw → FK m₀ nm wd m → NeAll I tw → ta ≠ I →
      ItemsRest prog06 w (callerA.deeper (lawE L a ccd)) E h₀ (lawE L a ccd) (.Name (Str.ofString "kind") px) kindB Q s [(I, "list_iterator")] [(ka, lo)] (ks.map fun k => Itm.val (.int k.1 k.2)) m ((ta, W.listOf (ts ++ [v]).toArray n) :: tw)
  | [], done, ts, v, nm, wd, tw, m, n, hk, hd, S, H, hI, hT => by
    have e : done = all := by simpa using hd
    subst e
    exact ItemsRest.zero fun h tk F N => fin ts v nm wd tw m n h tk S H F N
  | (k, t) :: ks, done, ts, v, nm, wd, tw, m, n, hk, hd, S, H, hI, hT => by
    have hk0 := hk (k, t) (.head _)
    have hlen : ts.length ≤ 90 := by
      have := S.len; have e := congrArg List.length hd; simp at e; omega
    refine ItemsRest.val fun h tk F => AllObj.cons fun o ho => AllObj.nil fun N => ?_
    refine wpAny_assign_Name (wpAny_storeName_local (m := m) kind_local F.ns (fun h1 n1 sb => ?_) law_plain)
    have F1 := F.set n1 sb
    have N1 := news_set N sb
    obtain ⟨u1, u2, e⟩ := fk_map (k := k) (t := t) H hn0 ht0
    rw [e] at F1
    obtain ⟨ht, C, Ck, Co⟩ := exists_cov (h := h1) (tw := (I, o) :: tw) F1.keep fun p hp => (N1 p (by
      rcases List.mem_cons.mp hp with rfl | hp
      · exact .head _
      · exact .tail _ (.tail _ hp))).1
    obtain ⟨as, has, Tv⟩ := id S.top
    refine kind_turn (tw := (I, o) :: tw) (ht := ht) (ts := ts) (v := v) (n := n) B F1 X (fun p hp => N1 p ?_) T (by have := S.sz; omega) (by omega) (.tail _ (S.sub _ hna)) (neCons (Ne.symm hT) S.ne) C (fun _ => (Tv ht Ck fun p hp => Co p (.tail _ hp)).2) hk0.1 hk0.2 ?_
    · rcases List.mem_cons.mp hp with rfl | hp
      · exact .tail _ (.head _)
      · rcases List.mem_cons.mp hp with rfl | hp
        · exact .head _
        · exact .tail _ (.tail _ hp)
    · intro x own h' tk' m' u1' u2' F' e1 e2 e3 N' G' hn' hto hon
      have N2 : News h₀ L h' ((ta, W.listOf ((ts ++ [v]) ++ [Value.ref x]).toArray (n + 1)) :: (own ++ tw)) := fun p hp => N' p (by
        rcases List.mem_cons.mp hp with rfl | hp
        · exact .head _
        · rcases List.mem_append.mp hp with hp | hp
          · exact .tail _ (List.mem_append_left _ hp)
          · exact .tail _ (List.mem_append_right _ (.tail _ hp)))
      have S2 := S.step X N2 (by omega) hk0.1 hk0.2 G' (fun p hp => hn' p (.tail _ hp)) hto
      have hI2 : NeAll I (own ++ tw) := neAll_app (fun q hq => Ne.symm (hon q hq (I, o) (.head _))) hI
      refine ⟨h', tk', m', (ta, W.listOf ((ts ++ [v]) ++ [Value.ref x]).toArray (n + 1)) :: (own ++ tw), rfl, F', ?_, ?_, ⟨?_, trivial⟩, ?_⟩
      · intro p hp
        rcases List.mem_cons.mp hp with rfl | hp
        · exact N' _ (.tail _ (List.mem_append_right _ (.head _)))
        · exact N2 p hp
      · intro p hp q hq
        rcases List.mem_cons.mp hq with rfl | hq
        · rcases List.mem_cons.mp hp with rfl | hp
          · exact hT
          · exact hI2 p hp
        · cases hq
      · exact .tail _ (List.mem_append_right _ (S.sub _ hka))
      · exact kinds_rest B X T hn0 ht0 hna hka hall fin ks (done ++ [k]) (ts ++ [v]) (.ref x) _ _ (own ++ tw) m' (n + 1) (fun q hq => hk q (.tail _ hq)) (by simpa using hd) S2 (fk_next hn0 ht0 e1 e2 e3) hI2 hT
end
end Mine
end

-- First06
section
open PySem PySem.W PyProof.Rows PySem.Spec PySem.Calls
set_option linter.unusedVariables false
namespace Mine
/-- what the core shows that lies below the first floor -/
def CoreV (h₀ : Heap) (tw : List (Addr × Obj)) (b0 : Value) (nm wd : Str) : Prop := ∃ as : List Addr, (∀ a ∈ as, ∃ o, (a, o) ∈ tw) ∧ On h₀ tw fun h => RepU as h 2 b0 nm ∧ ((∃ u, b0 = .str wd u) ∨ ((∀ a b, b0 ≠ .str a b) ∧ StrC as h 3 b0 wd))

theorem st_first {P : Params} {h₀ h : Heap} {L : Addr} {tw0 tw own : List (Addr × Obj)} {ta x : Addr} {b0 v : Value} {nm wd : Str} {k : Int} {n : Nat} (hC : CoreV h₀ tw b0 nm wd) (hsub : ∀ p ∈ tw0, p ∈ tw) (X : (hd06.heap_39 P).In h₀) (hnl : nm.length ≤ 100)
    (N : News h₀ L h ((ta, W.listOf (([] ++ [v]) ++ [Value.ref x]).toArray n) :: (own ++ tw))) (h0 : 0 ≤ k) (h6 : k < 6) (G : ∀ h'' : Heap, (∀ p ∈ own, h''.get? p.1 = some p.2) → FloorK h'' k b0 x) (hn : NeAll x tw) (hne : NeAll ta tw) (hto : NeAll ta own) :
    St h₀ tw0 ta b0 [k] [v] (.ref x) (nameK k nm) (wordK k nm wd) (own ++ tw) := by
  obtain ⟨as, has, T⟩ := hC
  have hxa : x ∉ as := fun hx => by obtain ⟨o, ho⟩ := has x hx; exact hn _ ho rfl
  have hown : ∃ o, (x, o) ∈ own := floor_own h0 h6 G fun p hp => (N p (.tail _ (List.mem_append_left _ hp))).1
  refine ⟨fun p hp => List.mem_append_right _ (hsub p hp), neAll_app hto hne, by simp, rfl, ?_, ⟨asK k x as, ?_, ?_⟩, ?_⟩
  · have := @nameK_len nm k; simp; omega
  · intro a ha
    unfold asK at ha
    split at ha
    · obtain ⟨o, ho⟩ := has a ha; exact ⟨o, List.mem_append_right _ ho⟩
    · rcases List.mem_cons.mp ha with rfl | ha
      · obtain ⟨o, ho⟩ := hown; exact ⟨o, List.mem_append_left _ ho⟩
      · obtain ⟨o, ho⟩ := has a ha; exact ⟨o, List.mem_append_right _ ho⟩
  · intro h'' k'' hs
    have t := T h'' k'' fun p hp => hs p (List.mem_append_right _ hp)
    exact shows_floor (X.keeps k'') (by omega) h0 h6 (G h'' fun p hp => hs p (List.mem_append_left _ hp)) hxa t.1 t.2
  · intro i k' hk
    cases i with
    | zero =>
      have hk' : k = k' := by simpa using hk
      subst hk'
      exact ⟨x, rfl, fun h'' _ hs => G h'' fun p hp => hs p (List.mem_append_left _ hp)⟩
    | succ i => simp at hk

section
variable {w : World} {mean : ExcName → Option Value} {mg mb : Str → Option Value} {a : Addr} {ccd : Value} {base h₀ : Heap} {L : Addr} {m₀ : Str → Option Value} {na ta ka I : Addr} {lo : Obj} {nn : Nat} {t0 t1 t2 t3 : Tok} {tw0 : List (Addr × Obj)} {core : Value} {s : Shared} {Q : Flow → Shared → Prop} {E : Value → Shared → Prop} {px : Pos} {k : Int} {t : Tok} {ks : List (Int × Tok)} {nm wd : Str} {m : Str → Option Value} {n : Nat}
/-- the loop over kinds, a first floor that takes the core as it is -/
theorem kinds_whole (B : Below callerA base [] h₀) (X : (hd06.heap_39 w.params).In h₀) (T : Top hd06.view_39 (looseW hd06.view_39 []) mean mg mb h₀)
    (hn0 : m₀ (Str.ofString "names") = some (.ref na)) (ht0 : m₀ (Str.ofString "things") = some (.ref ta)) (hna : (na, W.listOf (namesL t0 t1 t2 t3) nn) ∈ tw0) (hka : (ka, lo) ∈ tw0) (hall : (k :: ks.map Prod.fst).length ≤ 90)
    (hk : ∀ q ∈ ((k, t) :: ks : List (Int × Tok)), 0 ≤ q.1 ∧ q.1 < 6) (hC : CoreV h₀ tw0 core nm wd) (hTr : k < 2 → On h₀ tw0 fun h => Truth h core true) (hnl : nm.length ≤ 100) (H : FK m₀ nm wd m) (hI : NeAll I tw0) (hT : ta ≠ I) (hne : NeAll ta tw0)
    (fin : ∀ ts v nm wd tw m n h tk, St h₀ tw0 ta core (k :: ks.map Prod.fst) ts v nm wd tw → FK m₀ nm wd m → Fr h₀ L h m → News h₀ L h ((ta, W.listOf (ts ++ [v]).toArray n) :: tw) → Q .next { s with heap := h, toks := tk }) :
    ItemsRest prog06 w (callerA.deeper (lawE L a ccd)) E h₀ (lawE L a ccd) (.Name (Str.ofString "kind") px) kindB Q s [(I, "list_iterator")] [(ka, lo)] (((k, t) :: ks).map fun k => Itm.val (.int k.1 k.2)) m ((ta, W.listOf ([] ++ [core]).toArray n) :: tw0) := by
  have hk0 := hk (k, t) (.head _)
  refine ItemsRest.val fun h tk F => AllObj.cons fun o ho => AllObj.nil fun N => ?_
  refine wpAny_assign_Name (wpAny_storeName_local (m := m) kind_local F.ns (fun h1 n1 sb => ?_) law_plain)
  have F1 := F.set n1 sb
  have N1 := news_set N sb
  obtain ⟨u1, u2, e⟩ := fk_map (k := k) (t := t) H hn0 ht0
  rw [e] at F1
  obtain ⟨ht, C, Ck, Co⟩ := exists_cov (h := h1) (tw := (I, o) :: tw0) F1.keep fun p hp => (N1 p (by
    rcases List.mem_cons.mp hp with rfl | hp
    · exact .head _
    · exact .tail _ (.tail _ hp))).1
  refine kind_turn (tw := (I, o) :: tw0) (ht := ht) (ts := []) (v := core) (n := n) B F1 X (fun p hp => N1 p ?_) T (by omega) (by decide) (.tail _ hna) (neCons (Ne.symm hT) hne) C (fun q => hTr q ht Ck fun p hp => Co p (.tail _ hp)) hk0.1 hk0.2 ?_
  · rcases List.mem_cons.mp hp with rfl | hp
    · exact .tail _ (.head _)
    · rcases List.mem_cons.mp hp with rfl | hp
      · exact .head _
      · exact .tail _ (.tail _ hp)
  · intro x own h' tk' m' u1' u2' F' e1 e2 e3 N' G' hn' hto hon
    have N2 : News h₀ L h' ((ta, W.listOf (([] ++ [core]) ++ [Value.ref x]).toArray (n + 1)) :: (own ++ tw0)) := fun p hp => N' p (by
      rcases List.mem_cons.mp hp with rfl | hp
      · exact .head _
      · rcases List.mem_append.mp hp with hp | hp
        · exact .tail _ (List.mem_append_left _ hp)
        · exact .tail _ (List.mem_append_right _ (.tail _ hp)))
    have S2 := st_first hC (fun p hp => hp) X hnl N2 hk0.1 hk0.2 G' (fun p hp => hn' p (.tail _ hp)) hne hto
    have hI2 : NeAll I (own ++ tw0) := neAll_app (fun q hq => Ne.symm (hon q hq (I, o) (.head _))) hI
    refine ⟨h', tk', m', (ta, W.listOf (([] ++ [core]) ++ [Value.ref x]).toArray (n + 1)) :: (own ++ tw0), rfl, F', ?_, ?_, ⟨?_, trivial⟩, ?_⟩
    · intro p hp
      rcases List.mem_cons.mp hp with rfl | hp
      · exact N' _ (.tail _ (List.mem_append_right _ (.head _)))
      · exact N2 p hp
    · intro p hp q hq
      rcases List.mem_cons.mp hq with rfl | hq
      · rcases List.mem_cons.mp hp with rfl | hp
        · exact hT
        · exact hI2 p hp
      · cases hq
    · exact .tail _ (List.mem_append_right _ hka)
    · exact kinds_rest B X T hn0 ht0 hna hka hall fin ks [k] [core] (.ref x) _ _ (own ++ tw0) m' (n + 1) (fun q hq => hk q (.tail _ hq)) rfl S2 (fk_next hn0 ht0 e1 e2 e3) hI2 hT
/-- the loop over kinds, a first BadStatusLine of an empty core -/
theorem kinds_whole0 {rt : Str} {as : List Addr} (B : Below callerA base [] h₀) (X : (hd06.heap_39 w.params).In h₀) (T : Top hd06.view_39 (looseW hd06.view_39 []) mean mg mb h₀)
    (hn0 : m₀ (Str.ofString "names") = some (.ref na)) (ht0 : m₀ (Str.ofString "things") = some (.ref ta)) (hna : (na, W.listOf (namesL t0 t1 t2 t3) nn) ∈ tw0) (hka : (ka, lo) ∈ tw0) (hall : (0 :: ks.map Prod.fst).length ≤ 90)
    (hk : ∀ q ∈ ((0, t) :: ks : List (Int × Tok)), 0 ≤ q.1 ∧ q.1 < 6) (hC : ∀ u, CoreV h₀ tw0 (.str rt u) nm wd) (hTr : On h₀ tw0 fun h => Truth h core false) (hR : On h₀ tw0 fun h => Rep as h 1 core rt) (hnl : nm.length ≤ 100) (H : FK m₀ nm wd m) (hI : NeAll I tw0) (hT : ta ≠ I) (hne : NeAll ta tw0)
    (fin : ∀ u ts v nm wd tw m n h tk, St h₀ tw0 ta (.str rt u) (0 :: ks.map Prod.fst) ts v nm wd tw → FK m₀ nm wd m → Fr h₀ L h m → News h₀ L h ((ta, W.listOf (ts ++ [v]).toArray n) :: tw) → Q .next { s with heap := h, toks := tk }) :
    ItemsRest prog06 w (callerA.deeper (lawE L a ccd)) E h₀ (lawE L a ccd) (.Name (Str.ofString "kind") px) kindB Q s [(I, "list_iterator")] [(ka, lo)] (((0, t) :: ks).map fun k => Itm.val (.int k.1 k.2)) m ((ta, W.listOf ([] ++ [core]).toArray n) :: tw0) := by
  have hk0 := hk (0, t) (.head _)
  refine ItemsRest.val fun h tk F => AllObj.cons fun o ho => AllObj.nil fun N => ?_
  refine wpAny_assign_Name (wpAny_storeName_local (m := m) kind_local F.ns (fun h1 n1 sb => ?_) law_plain)
  have F1 := F.set n1 sb
  have N1 := news_set N sb
  obtain ⟨u1, u2, e⟩ := fk_map (k := 0) (t := t) H hn0 ht0
  rw [e] at F1
  obtain ⟨ht, C, Ck, Co⟩ := exists_cov (h := h1) (tw := (I, o) :: tw0) F1.keep fun p hp => (N1 p (by
    rcases List.mem_cons.mp hp with rfl | hp
    · exact .head _
    · exact .tail _ (.tail _ hp))).1
  refine kind_turn0f (rt := rt) (as := as) (tw := (I, o) :: tw0) (ht := ht) (ts := []) (v := core) (n := n) B F1 X (fun p hp => N1 p ?_) T (by omega) (by decide) (.tail _ hna) (neCons (Ne.symm hT) hne) C (hTr ht Ck fun p hp => Co p (.tail _ hp)) (hR ht Ck fun p hp => Co p (.tail _ hp)) ?_
  · rcases List.mem_cons.mp hp with rfl | hp
    · exact .tail _ (.head _)
    · rcases List.mem_cons.mp hp with rfl | hp
      · exact .head _
      · exact .tail _ (.tail _ hp)
  · intro x own h' tk' m' u1' u2' F' e1 e2 e3 N' G' hn' hto hon
    have N2 : News h₀ L h' ((ta, W.listOf (([] ++ [core]) ++ [Value.ref x]).toArray (n + 1)) :: (own ++ tw0)) := fun p hp => N' p (by
      rcases List.mem_cons.mp hp with rfl | hp
      · exact .head _
      · rcases List.mem_append.mp hp with hp | hp
        · exact .tail _ (List.mem_append_left _ hp)
        · exact .tail _ (List.mem_append_right _ (.tail _ hp)))
    obtain ⟨u, G'⟩ := G'
    have S2 := st_first (k := 0) (hC u) (fun p hp => hp) X hnl N2 (by decide) (by decide) (fun h'' q => ⟨fun _ => G' h'' q, fun e => absurd e (by decide), fun e => absurd e (by decide), fun e => absurd e (by decide), fun e => absurd e (by decide)⟩) (fun p hp => hn' p (.tail _ hp)) hne hto
    have hI2 : NeAll I (own ++ tw0) := neAll_app (fun q hq => Ne.symm (hon q hq (I, o) (.head _))) hI
    refine ⟨h', tk', m', (ta, W.listOf (([] ++ [core]) ++ [Value.ref x]).toArray (n + 1)) :: (own ++ tw0), rfl, F', ?_, ?_, ⟨?_, trivial⟩, ?_⟩
    · intro p hp
      rcases List.mem_cons.mp hp with rfl | hp
      · exact N' _ (.tail _ (List.mem_append_right _ (.head _)))
      · exact N2 p hp
    · intro p hp q hq
      rcases List.mem_cons.mp hq with rfl | hq
      · rcases List.mem_cons.mp hp with rfl | hp
        · exact hT
        · exact hI2 p hp
      · cases hq
    · exact .tail _ (List.mem_append_right _ hka)
    · exact kinds_rest B X T hn0 ht0 hna hka hall (fin u) ks [0] [core] (.ref x) _ _ (own ++ tw0) m' (n + 1) (fun q hq => hk q (.tail _ hq)) rfl S2 (fk_next hn0 ht0 e1 e2 e3) hI2 hT
end
end Mine
end

-- Check06
section
open PySem PySem.W PyProof.Rows PySem.Spec PySem.Calls
set_option linter.unusedVariables false
namespace Mine
theorem find63 (P : Params) (hs : Int) (tk : Tok) (v : Value) : findObj (hd06.heap_39 P) 63 (some (dictOf [⟨hs, .str (Str.ofString "line") tk, v⟩] 1)) (Str.ofString "line") = some (.value v) := by kernel_rfl
theorem find44 (P : Params) (hs : Int) (tk : Tok) (v : Value) : findObj (hd06.heap_39 P) 44 (some (dictOf [⟨hs, .str (Str.ofString "version") tk, v⟩] 1)) (Str.ofString "version") = some (.value v) := by kernel_rfl
theorem args63 (P : Params) (hs : Int) (tk : Tok) (v : Value) : findObj (hd06.heap_39 P) 63 (some (dictOf [⟨hs, .str (Str.ofString "line") tk, v⟩] 1)) (Str.ofString "args") = some (.bind (.builtin "getset_descriptor.__get__") (.builtin "BaseException.args")) := by kernel_rfl
theorem args44 (P : Params) (hs : Int) (tk : Tok) (v : Value) : findObj (hd06.heap_39 P) 44 (some (dictOf [⟨hs, .str (Str.ofString "version") tk, v⟩] 1)) (Str.ofString "args") = some (.bind (.builtin "getset_descriptor.__get__") (.builtin "BaseException.args")) := by kernel_rfl
/-- the exception that a floor of kind 0, 1, 2 is -/
def isFloor (C : Addr) (attr : Str) : Prop := (C = 63 ∧ attr = Str.ofString "line") ∨ (C = 44 ∧ attr = Str.ofString "version")

section
variable {w : World} {A : Around} {E : Value → Shared → Prop} {s : Shared} {h₀ : Heap} {L x C : Addr} {m : Str → Option Value} {news : List (Addr × Obj)} {attr : Str} {v : Value} {expr : Bool} {Q : Value → Shared → Prop}
theorem floor_attr (F : Fr h₀ L s.heap m) (X : (hd06.heap_39 w.params).In h₀) (N : News h₀ L s.heap news) (hC : isFloor C attr) (G : On h₀ news fun h => FloorAt h C attr v x) (hv : handedIn v = true) (h : Q v { s with toks := s.toks + 1 }) :
    wpAny (model prog06 w) A (getAttr (.ref x) attr expr) Q E s := by
  obtain ⟨dx, vs, sl, ty, n, hs, tk, a, b, c, d⟩ := (G s.heap F.keep fun p hp => (N p hp).1).ex
  rcases hC with ⟨rfl, rfl⟩ | ⟨rfl, rfl⟩
  · exact exc_get_value (od := some _) (X.keeps F.keep) ⟨a, rfl, rfl, d⟩ (get63 _) (find63 _ hs tk v) hv h
  · exact exc_get_value (od := some _) (X.keeps F.keep) ⟨a, rfl, rfl, d⟩ (get44 _) (find44 _ hs tk v) hv h
theorem floor_args (F : Fr h₀ L s.heap m) (X : (hd06.heap_39 w.params).In h₀) (N : News h₀ L s.heap news) (hC : isFloor C attr) (G : On h₀ news fun h => FloorAt h C attr v x) (h : ∀ ty, IsTup s.heap ty #[v] → Q (.ref ty) { s with toks := s.toks + 1 }) :
    wpAny (model prog06 w) A (getAttr (.ref x) (Str.ofString "args") expr) Q E s := by
  obtain ⟨dx, vs, sl, ty, n, hs, tk, a, b, c, d⟩ := (G s.heap F.keep fun p hp => (N p hp).1).ex
  rcases hC with ⟨rfl, rfl⟩ | ⟨rfl, rfl⟩
  · exact exc_get_args (od := some _) (X.keeps F.keep) ⟨a, rfl, rfl, d⟩ (get63 _) rfl b (args63 _ hs tk v) (h ty ⟨_, c, rfl, n, rfl⟩)
  · exact exc_get_args (od := some _) (X.keeps F.keep) ⟨a, rfl, rfl, d⟩ (get44 _) rfl b (args44 _ hs tk v) (h ty ⟨_, c, rfl, n, rfl⟩)
theorem tup_item {ty : Addr} {value slice : Expr} {u : Tok} (ht : IsTup s.heap ty #[v]) (h : Q v s)
    (hs : subscripted slice false (.ref ty) (.int 0 u) = operate [.ref ty, .int 0 u] (getItem (.ref ty) (.int 0 u)) := by with_unfolding_all rfl) :
    wpAny (model prog06 w) A (subscriptTail value slice (.ref ty) (.int 0 u)) Q E s :=
  tail_any ht.typeIs slot_tuple_getitem.lookup (getItem_tuple (k := 0) ht (by decide) (by decide) rfl rfl h) hs
end
theorem eq_int_ne {prog : Program} {w : World} {A : Around} {E : Value → Shared → Prop} {s : Shared} {a b : Int} {ta tb : Tok} {Q : Value → Shared → Prop} (h : a ≠ b) (hQ : Q (.bool false) s) : wpAny (model prog w) A (compareOp .Eq (.int a ta) (.int b tb)) Q E s :=
  eq_int (by rw [show (a == b) = false by simpa using h]; exact hQ)
abbrev mapC (m₀ : Str → Option Value) (ta : Addr) (i : Nat) (ti : Tok) (kd : Int) (t : Tok) : Str → Option Value :=
  fun y => if y = Str.ofString "things" then some (.ref ta) else if y = Str.ofString "k" then some (.int (i : Int) ti) else if y = Str.ofString "kind" then some (.int kd t) else m₀ y

local macro_rules | `(tactic| walk_at "getAttr ref") => `(tactic| (k_here; k_dflt (first
  | ((with_reducible show wpAny _ _ (getAttr (Value.ref _) (PySem.Str.ofString "args") _) _ _ _); refine' floor_args ?k1 ?k2 ?k3 ?k4 ?k5 ?_; (case k1 => k_asm); (case k2 => k_asm); (case k3 => k_asm); (case k5 => assumption); (case k4 => first | exact .inl ⟨rfl, rfl⟩ | exact .inr ⟨rfl, rfl⟩); intro ty' hty')
  | (refine' floor_attr ?k1 ?k2 ?k3 ?k4 ?k5 ?k6 ?_; (case k1 => k_asm); (case k2 => k_asm); (case k3 => k_asm); (case k5 => assumption); (case k4 => first | exact .inl ⟨rfl, rfl⟩ | exact .inr ⟨rfl, rfl⟩); (case k6 => first | rfl | assumption)))))
local macro_rules | `(tactic| walk_at "subscriptTail Name BinOp ref int") => `(tactic| (k_here; k_dflt (refine' item_news ?k1 ?k2 ?k7 ?k3 ?k4 ?k5 ?_ ?k6; (case k1 => assumption); (case k2 => k_asm); (case k7 => exact fun p hp => hp); (case k3 => omega); (case k4 => omega); (case k5 => assumption); (case k6 => with_unfolding_all rfl))))
local macro_rules | `(tactic| walk_at "subscriptTail Name BinOp") => `(tactic| (k_here; k_dflt (refine' item_news ?k1 ?k2 ?k7 ?k3 ?k4 ?k5 ?_ ?k6; (case k1 => assumption); (case k2 => k_asm); (case k7 => exact fun p hp => hp); (case k3 => omega); (case k4 => omega); (case k5 => assumption); (case k6 => with_unfolding_all rfl))))
local macro_rules | `(tactic| walk_at "subscriptTail Name Name ref int") => `(tactic| (k_here; k_dflt (refine' item_news ?k1 ?k2 ?k7 ?k3 ?k4 ?k5 ?_ ?k6; (case k1 => assumption); (case k2 => k_asm); (case k7 => exact fun p hp => hp); (case k3 => omega); (case k4 => omega); (case k5 => assumption); (case k6 => with_unfolding_all rfl))))
local macro_rules | `(tactic| walk_at "subscriptTail Attribute Constant") => `(tactic| (k_here; k_dflt (refine' tup_item ?k1 ?_ ?k6; (case k1 => assumption); (case k6 => with_unfolding_all rfl))))
local macro_rules | `(tactic| walk_at "subscriptTail") => `(tactic| (k_here; k_dflt (refine' tup_item ?k1 ?_ ?k6; (case k1 => assumption); (case k6 => with_unfolding_all rfl))))
local macro_rules | `(tactic| walk_at "compareOp Eq int int") => `(tactic| (k_here; refine eq_int_ne (by omega) ?_))
set_option maxRecDepth 100000 in
set_option maxHeartbeats 3000000 in
theorem check_turn {w : World} {mean : ExcName → Option Value} {mg mb : Str → Option Value} {a : Addr} {ccd : Value} {base h₀ : Heap} {L : Addr} {m₀ : Str → Option Value} {ta x y : Addr} {news : List (Addr × Obj)} {ths : List Value} {n : Nat} {s : Shared} {i : Nat} {kd : Int} {ti t : Tok}
    {Q : Flow → Shared → Prop} {E : Value → Shared → Prop}
    (B : Below callerA base [] h₀) (F : Fr h₀ L s.heap (mapC m₀ ta i ti kd t)) (X : (hd06.heap_39 w.params).In h₀) (N : News h₀ L s.heap news) (T : Top hd06.view_39 (looseW hd06.view_39 []) mean mg mb h₀)
    (hm : (ta, W.listOf ths.toArray n) ∈ news) (h1 : 1 ≤ i) (hi : i ≤ 1000) (e1 : ths.toArray[((i : Int) + 1).toNat]? = some (.ref x)) (e2 : ths.toArray[((i : Int)).toNat]? = some (.ref y)) (G : On h₀ news fun h => FloorK h kd (.ref y) x) (h0 : 0 ≤ kd) (h6 : kd < 6)
    (fin : ∀ h' tk' m', Fr h₀ L h' m' → (∀ z, z ≠ Str.ofString "err" → z ≠ Str.ofString "below" → m' z = mapC m₀ ta i ti kd t z) → News h₀ L h' news → Q .next { s with heap := h', toks := tk' }) :
    wpAny (model prog06 w) (callerA.deeper (lawE L a ccd)) (execs checkB (lawE L a ccd)) Q E s := by
  have hfill : PySem.Challenge.rw_dm0148_06.about = PySem.Challenge.rw_dm0148_06.about ∧ hd06.heap_39 = hd06.heap_39 := by k_fill; exact ⟨rfl, rfl⟩
  clear hfill
  have hc : kd = 0 ∨ kd = 1 ∨ kd = 2 ∨ kd = 3 ∨ kd = 4 ∨ kd = 5 := by omega
  conv in (execs _ _) => arg 1; whnf
  rcases hc with rfl | rfl | rfl | rfl | rfl | rfl
  all_goals (first
    | (have G1 : On h₀ news fun h => FloorAt h 63 (Str.ofString "line") (.ref y) x := fun h a b => (G h a b).1 (by decide))
    | (have G1 : On h₀ news fun h => FloorAt h 44 (Str.ofString "version") (.ref y) x := fun h a b => (G h a b).2.1 rfl)
    | skip)
  all_goals clear G
  all_goals w_strict (k_steps)
  all_goals exact fin _ _ _ (by assumption) (by intro z q1 q2; (try simp only [if_neg q1, if_neg q2])) (by assumption)
end Mine
end

-- Check0
section
open PySem PySem.W PyProof.Rows PySem.Spec PySem.Calls
set_option linter.unusedVariables false
namespace Mine
def TypC (h : Heap) (v : Value) (T : String) : Prop := ∀ s : Shared, Kp h s.heap → s.TypeIs v T
def NeC (h : Heap) (a b : Value) : Prop := ∀ (prog : Program) (w : World) (A : Around) (Q : Value → Shared → Prop) (E : Value → Shared → Prop) (s : Shared), A.units < 100 → Kp h s.heap → (∀ tk, Q (.bool false) { s with toks := tk }) → wpAny (model prog w) A (compareOp .NotEq a b) Q E s
section
variable {w : World} {A : Around} {E : Value → Shared → Prop} {s : Shared} {h₀ : Heap} {L : Addr} {m : Str → Option Value} {news : List (Addr × Obj)} {v a b : Value} {T : String} {Q : Value → Shared → Prop}
theorem typ_call (F : Fr h₀ L s.heap m) (N : News h₀ L s.heap news) (G : On h₀ news fun h => TypC h v T) (hn : (Value.type T == Value.type "builtin_function_or_method") = false) (h : Q (.type T) s) : wpAny (model prog06 w) A (call (.type "type") [v]) Q E s :=
  call_type_of (G s.heap F.keep (fun p hp => (N p hp).1) s fun b o e => e) hn h
theorem ne_call (F : Fr h₀ L s.heap m) (N : News h₀ L s.heap news) (G : On h₀ news fun h => NeC h a b) (hu : A.units < 100) (h : ∀ tk, Q (.bool false) { s with toks := tk }) : wpAny (model prog06 w) A (compareOp .NotEq a b) Q E s :=
  G s.heap F.keep (fun p hp => (N p hp).1) prog06 w A Q E s hu (fun b o e => e) h
end
abbrev mapC0 (m₀ : Str → Option Value) (ta : Addr) (ti : Tok) (kd : Int) (t : Tok) (D : Value) : Str → Option Value :=
  fun y => if y = Str.ofString "things" then some (.ref ta) else if y = Str.ofString "k" then some (.int 0 ti) else if y = Str.ofString "kind" then some (.int kd t) else if y = Str.ofString "due" then some D else m₀ y

local macro_rules | `(tactic| walk_at "getAttr ref") => `(tactic| (k_here; k_dflt (
  (refine' floor_attr ?k1 ?k2 ?k3 ?k4 ?k5 ?k6 ?_; (case k1 => k_asm); (case k2 => k_asm); (case k3 => k_asm); (case k5 => assumption); (case k4 => first | exact .inl ⟨rfl, rfl⟩ | exact .inr ⟨rfl, rfl⟩); (case k6 => assumption)))))
local macro_rules | `(tactic| walk_at "subscriptTail Name BinOp ref int") => `(tactic| (k_here; k_dflt (refine' item_news ?k1 ?k2 ?k7 ?k3 ?k4 ?k5 ?_ ?k6; (case k1 => assumption); (case k2 => k_asm); (case k7 => exact fun p hp => hp); (case k3 => omega); (case k4 => omega); (case k5 => assumption); (case k6 => with_unfolding_all rfl))))
local macro_rules | `(tactic| walk_at "call type:type") => `(tactic| (k_here; k_dflt (refine' typ_call ?k1 ?k2 ?k3 ?k4 ?_; (case k1 => k_asm); (case k2 => k_asm); (case k3 => assumption); (case k4 => assumption))))
local macro_rules | `(tactic| walk_at "compareOp NotEq") => `(tactic| (k_here; k_dflt (refine' ne_call ?k1 ?k2 ?k3 ?k4 ?_; (case k1 => k_asm); (case k2 => k_asm); (case k3 => assumption); (case k4 => exact (by decide : (7 : Nat) < 100)); intro tk')))
local macro_rules | `(tactic| walk_at "compareOp IsNot") => `(tactic| (k_here; k_dflt (refine isnot_type_same ?_)))
set_option maxRecDepth 100000 in
set_option maxHeartbeats 3000000 in
theorem check_turn0 {w : World} {mean : ExcName → Option Value} {mg mb : Str → Option Value} {a : Addr} {ccd : Value} {base h₀ : Heap} {L : Addr} {m₀ : Str → Option Value} {ta x : Addr} {news : List (Addr × Obj)} {ths : List Value} {n : Nat} {s : Shared} {kd : Int} {ti t : Tok} {b0 D : Value} {Ty : String}
    {Q : Flow → Shared → Prop} {E : Value → Shared → Prop}
    (B : Below callerA base [] h₀) (F : Fr h₀ L s.heap (mapC0 m₀ ta ti kd t D)) (X : (hd06.heap_39 w.params).In h₀) (N : News h₀ L s.heap news) (T : Top hd06.view_39 (looseW hd06.view_39 []) mean mg mb h₀)
    (hm : (ta, W.listOf ths.toArray n) ∈ news) (e1 : ths.toArray[((0 : Int) + 1).toNat]? = some (.ref x)) (G : On h₀ news fun h => FloorK h kd b0 x) (hkd : kd = 0 ∨ kd = 2) (hh : handedIn b0 = true)
    (hTb : On h₀ news fun h => TypC h b0 Ty) (hTd : On h₀ news fun h => TypC h D Ty) (hTn : (Value.type Ty == Value.type "builtin_function_or_method") = false) (hN : On h₀ news fun h => NeC h b0 D)
    (fin : ∀ h' tk' m', Fr h₀ L h' m' → (∀ z, z ≠ Str.ofString "err" → z ≠ Str.ofString "below" → m' z = mapC0 m₀ ta ti kd t D z) → News h₀ L h' news → Q .next { s with heap := h', toks := tk' }) :
    wpAny (model prog06 w) (callerA.deeper (lawE L a ccd)) (execs checkB (lawE L a ccd)) Q E s := by
  have hfill : PySem.Challenge.rw_dm0148_06.about = PySem.Challenge.rw_dm0148_06.about ∧ hd06.heap_39 = hd06.heap_39 := by k_fill; exact ⟨rfl, rfl⟩
  clear hfill
  conv in (execs _ _) => arg 1; whnf
  rcases hkd with rfl | rfl
  · have G1 : On h₀ news fun h => FloorAt h 63 (Str.ofString "line") b0 x := fun h a b => (G h a b).1 (by decide)
    clear G
    w_strict (k_steps)
    exact fin _ _ _ (by assumption) (by intro z q1 q2; (try simp only [if_neg q1, if_neg q2])) (by assumption)
  · have G1 : On h₀ news fun h => FloorAt h 44 (Str.ofString "version") b0 x := fun h a b => (G h a b).2.1 rfl
    clear G
    w_strict (k_steps)
    exact fin _ _ _ (by assumption) (by intro z q1 q2; (try simp only [if_neg q1, if_neg q2])) (by assumption)
end Mine
end

-- Check1
section
open PySem PySem.W PyProof.Rows PySem.Spec PySem.Calls
set_option linter.unusedVariables false
namespace Mine
theorem assign_pair {prog : Program} {w : World} {A : Around} {E : Value → Shared → Prop} {s : Shared} {env : Env} {h₀ : Heap} {m : Str → Option Value} {news : List (Addr × Obj)} {xi xv : Str} {pi pv pt : Pos} {x1} {T : Addr} {va vb : Value} {Q : Unit → Shared → Prop}
    (hh : A.handled = none) (hxi : env.kindOf xi = some .local) (hxv : env.kindOf xv = some .local) (hp : (env.scope.kind == .class || (env.scope.kind == .module && env.locals != env.globals)) = false)
    (F : Fr h₀ env.locals s.heap m) (N : News h₀ env.locals s.heap news) (ht : IsTup s.heap T #[va, vb])
    (h : ∀ h' tk, Fr h₀ env.locals h' (fun y => if y = xv then some vb else if y = xi then some va else m y) → News h₀ env.locals h' news → Q () { s with heap := h', toks := tk }) :
    wpAny (model prog w) A (assign (.Tuple [.Name xi pi, .Name xv pv] x1 pt) env (.ref T)) Q E s := by
  refine wpAny_assign_Tuple hh ht rfl rfl fun h₃ hx₃ => ?_
  have F3 := F.extBut hx₃ (Nat.le_refl _)
  have N3 := N.extBut hx₃ (Nat.le_refl _)
  show wpAny _ A (do holding [vb] (assign (.Name xi pi) env va); do holding [] (assign (.Name xv pv) env vb); pure ()) _ _ _
  refine wpAny_bind (wpAny_holding (wpAny_assign_Name (wpAny_storeName_local hxi F3.ns (fun h₄ hn₄ hs₄ => ?_) hp)))
  have F4 := F3.set hn₄ hs₄
  have N4 := news_set N3 hs₄
  refine wpAny_bind (wpAny_holding (wpAny_assign_Name (wpAny_storeName_local hxv F4.ns (fun h₅ hn₅ hs₅ => wpAny_pure ?_) hp)))
  exact h h₅ _ (F4.set hn₅ hs₅) (news_set N4 hs₅)

def FC (m₀ m : Str → Option Value) : Prop := ∀ y, y ≠ Str.ofString "k" → y ≠ Str.ofString "kind" → y ≠ Str.ofString "err" → y ≠ Str.ofString "below" → m y = m₀ y
theorem k_local {L a : Addr} {ccd : Value} : (lawE L a ccd).kindOf (Str.ofString "k") = some .local := by kernel_rfl

theorem fc_map {m : Str → Option Value} {ta : Addr} {i : Nat} {ti t : Tok} {kd : Int} (h2 : m (Str.ofString "things") = some (.ref ta)) :
    (fun y => if y = Str.ofString "kind" then some (Value.int kd t) else if y = Str.ofString "k" then some (Value.int (i : Int) ti) else m y) = mapC m ta i ti kd t := by
  refine funext fun y => ?_
  unfold mapC
  by_cases c1 : y = Str.ofString "kind"
  · subst c1; rfl
  · rw [if_neg c1]
    by_cases c2 : y = Str.ofString "k"
    · subst c2; rfl
    · rw [if_neg c2]
      by_cases c3 : y = Str.ofString "things"
      · subst c3; exact h2
      · rw [if_neg c3, if_neg c2, if_neg c1]
theorem fc_map0 {m : Str → Option Value} {ta : Addr} {ti t : Tok} {kd : Int} {D : Value} (h2 : m (Str.ofString "things") = some (.ref ta)) (h3 : m (Str.ofString "due") = some D) :
    (fun y => if y = Str.ofString "kind" then some (Value.int kd t) else if y = Str.ofString "k" then some (Value.int ((0 : Nat) : Int) ti) else m y) = mapC0 m ta ti kd t D := by
  refine funext fun y => ?_
  unfold mapC0
  by_cases c1 : y = Str.ofString "kind"
  · subst c1; rfl
  · rw [if_neg c1]
    by_cases c2 : y = Str.ofString "k"
    · subst c2; rfl
    · rw [if_neg c2]
      by_cases c3 : y = Str.ofString "things"
      · subst c3; exact h2
      · rw [if_neg c3, if_neg c2, if_neg c1]
        by_cases c4 : y = Str.ofString "due"
        · subst c4; exact h3
        · rw [if_neg c4]

section
variable {w : World} {mean : ExcName → Option Value} {mg mb : Str → Option Value} {a : Addr} {ccd : Value} {base h₀ : Heap} {L : Addr} {m₀ : Str → Option Value} {ta ka I : Addr} {lo : Obj} {b0 D : Value} {Ty : String} {s : Shared} {Q : Flow → Shared → Prop} {E : Value → Shared → Prop} {p1 p2 p3 : Pos} {all : List Int} {ths : List Value} {n : Nat} {tw : List (Addr × Obj)}
theorem check_rest (B : Below callerA base [] h₀) (X : (hd06.heap_39 w.params).In h₀) (T : Top hd06.view_39 (looseW hd06.view_39 []) mean mg mb h₀)
    (ht0 : m₀ (Str.ofString "things") = some (.ref ta)) (hd0 : m₀ (Str.ofString "due") = some D) (hka : (ka, lo) ∈ tw) (hall : all.length ≤ 90) (h6 : ∀ k ∈ all, 0 ≤ k ∧ k < 6)
    (hfl : ∀ i k, all[i]? = some k → ∃ x, ths[i + 1]? = some (.ref x) ∧ On h₀ tw fun h => FloorK h k (if i = 0 then b0 else ths.getD i .none) x)
    (hk0 : all[0]? = some 0 ∨ all[0]? = some 2) (hh : handedIn b0 = true) (hTb : On h₀ tw fun h => TypC h b0 Ty) (hTd : On h₀ tw fun h => TypC h D Ty) (hTn : (Value.type Ty == Value.type "builtin_function_or_method") = false) (hN : On h₀ tw fun h => NeC h b0 D)
    (hI : ∀ p ∈ (ta, W.listOf ths.toArray n) :: tw, p.1 < I)
    (fin : ∀ m h tk, FC m₀ m → Fr h₀ L h m → News h₀ L h ((ta, W.listOf ths.toArray n) :: tw) → Q .next { s with heap := h, toks := tk }) :
    ∀ (ks : List (Int × Tok)) (i : Nat) (m : Str → Option Value), all.drop i = ks.map Prod.fst → i + ks.length = all.length → FC m₀ m →
      ItemsRest prog06 w (callerA.deeper (lawE L a ccd)) E h₀ (lawE L a ccd) (.Tuple [.Name (Str.ofString "k") p1, .Name (Str.ofString "kind") p2] 0 p3) checkB Q s [(I + 1, "enumerate"), (I, "list_iterator")] [(ka, lo)] (enumItems i (ks.map fun k => Value.int k.1 k.2)) m ((ta, W.listOf ths.toArray n) :: tw)
  | [], i, m, hd, hl, H => ItemsRest.zero fun h tk F N => fin m h tk H F N
  | (k, t) :: ks, i, m, hd, hl, H => by
    have hki : all[i]? = some k := by
      have e := congrArg (fun l : List Int => l[0]?) hd
      simpa using e
    have hk6 := h6 k (List.mem_of_getElem? hki)
    have hlt : i < all.length := by simp at hl; omega
    obtain ⟨x, ex, Gx⟩ := hfl i k hki
    have e1 : m (Str.ofString "things") = some (.ref ta) := (H _ (by decide) (by decide) (by decide) (by decide)).trans ht0
    have e2 : m (Str.ofString "due") = some D := (H _ (by decide) (by decide) (by decide) (by decide)).trans hd0
    refine ItemsRest.pair fun Tt tt h tk hT F => AllObj.cons fun o1 ho1 => AllObj.cons fun o2 ho2 => AllObj.nil fun N => ?_
    refine assign_pair rfl k_local kind_local law_plain F N hT fun h1 tk1 F1 N1 => ?_
    have hsub : ∀ p ∈ tw, p ∈ [(I + 1, o1), (I, o2)] ++ (ta, W.listOf ths.toArray n) :: tw := fun p hp => .tail _ (.tail _ (.tail _ hp))
    have close : ∀ (h' : Heap) (tk' : Nat) (m' : Str → Option Value), Fr h₀ L h' m' → FC m₀ m' → News h₀ L h' ([(I + 1, o1), (I, o2)] ++ (ta, W.listOf ths.toArray n) :: tw) →
        UnrPostW h₀ L { s with heap := h, toks := tk } [(I + 1, o1), (I, o2)] (fun m' n' => SubL [(ka, lo)] n' ∧ ItemsRest prog06 w (callerA.deeper (lawE L a ccd)) E h₀ (lawE L a ccd) (.Tuple [.Name (Str.ofString "k") p1, .Name (Str.ofString "kind") p2] 0 p3) checkB Q s [(I + 1, "enumerate"), (I, "list_iterator")] [(ka, lo)] (enumItems (i + 1) (ks.map fun k => Value.int k.1 k.2)) m' n') Q .next { s with heap := h', toks := tk' } := by
      intro h' tk' m' F' H' N'
      refine ⟨h', tk', m', (ta, W.listOf ths.toArray n) :: tw, rfl, F', N', fun p hp q hq => ?_, ⟨.tail _ hka, trivial⟩, ?_⟩
      · have := hI p hp
        rcases List.mem_cons.mp hq with rfl | hq
        · exact Nat.ne_of_lt (Nat.lt_succ_of_lt this)
        · rcases List.mem_cons.mp hq with rfl | hq
          · exact Nat.ne_of_lt this
          · cases hq
      · refine check_rest B X T ht0 hd0 hka hall h6 hfl hk0 hh hTb hTd hTn hN hI fin ks (i + 1) m' ?_ (by simp at hl; omega) H'
        have e := congrArg List.tail hd
        simpa [List.tail_drop] using e
    cases i with
    | zero =>
      rw [fc_map0 e1 e2] at F1
      have hkd : k = 0 ∨ k = 2 := by
        rcases hk0 with q | q <;> rw [hki] at q <;> cases q
        · exact .inl rfl
        · exact .inr rfl
      refine check_turn0 B F1 X N1 T (.tail _ (.tail _ (.head _))) (by simpa using ex) (Gx.sub hsub) hkd hh (hTb.sub hsub) (hTd.sub hsub) hTn (hN.sub hsub) fun h' tk' m' F' e' N' => close h' tk' m' F' (fun y c1 c2 c3 c4 => ?_) N'
      rw [e' y c3 c4]
      unfold mapC0
      by_cases q1 : y = Str.ofString "things"
      · subst q1; exact ht0.symm
      · by_cases q2 : y = Str.ofString "due"
        · subst q2; exact hd0.symm
        · rw [if_neg q1, if_neg c1, if_neg c2, if_neg q2]; exact H y c1 c2 c3 c4
    | succ i =>
      rw [fc_map e1] at F1
      have hki' : ∃ k', all[i]? = some k' := ⟨_, List.getElem?_eq_getElem (by omega)⟩
      obtain ⟨k', hk'⟩ := hki'
      obtain ⟨y, ey, _⟩ := hfl i k' hk'
      have eg : ths.getD (i + 1) .none = .ref y := by rw [List.getD_eq_getElem?_getD, ey]; rfl
      rw [if_neg (by omega), eg] at Gx
      have n1 : (((i + 1 : Nat) : Int) + 1).toNat = i + 1 + 1 := by omega
      have n2 : (((i + 1 : Nat) : Int)).toNat = i + 1 := by omega
      refine check_turn (y := y) B F1 X N1 T (.tail _ (.tail _ (.head _))) (by omega) (by omega) (by rw [n1]; simpa using ex) (by rw [n2]; simpa using ey) (Gx.sub hsub) hk6.1 hk6.2 fun h' tk' m' F' e' N' => close h' tk' m' F' (fun y c1 c2 c3 c4 => ?_) N'
      rw [e' y c3 c4]
      unfold mapC
      by_cases q1 : y = Str.ofString "things"
      · subst q1; exact ht0.symm
      · rw [if_neg q1, if_neg c1, if_neg c2]; exact H y c1 c2 c3 c4
end
end Mine
end

-- Show06
section
open PySem PySem.W PyProof.Rows PySem.Spec PySem.Calls
set_option linter.unusedVariables false
namespace Mine
theorem clearNil {b : Addr} : Clear [] b := by unfold Clear; intro _ _ _ _ hc; cases hc
section
variable {w : World} {A : Around} {E : Value → Shared → Prop} {s : Shared} {h₀ : Heap} {L : Addr} {m : Str → Option Value} {news : List (Addr × Obj)} {v : Value} {as : List Addr} {d : Nat} {nm wd : Str} {Q : Value → Shared → Prop}
theorem show_str (F : Fr h₀ L s.heap m) (N : News h₀ L s.heap news) (G : On h₀ news fun h => Shows as h d v nm wd) (hd : d ≤ 1000) (hg : A.guards = some []) (hu : A.units < 100)
    (h : ∀ h' u tk, Fr h₀ L h' m → News h₀ L h' news → Q (.str wd u) { s with heap := h', toks := tk }) : wpAny (model prog06 w) A (call (.type "str") [v]) Q E s := by
  have S := G s.heap F.keep fun p hp => (N p hp).1
  refine str_call (d := d + 1) ?_ S.s hg (fun b _ => clearNil) (by rw [show cLine = 9900 from rfl]; omega) (fun b o e => e) fun h' u tk k => h h' u tk (F.keeps k) (N.keeps k)
  cases v <;> first | rfl | exact absurd rfl (S.no _ _)
theorem show_repr (F : Fr h₀ L s.heap m) (N : News h₀ L s.heap news) (G : On h₀ news fun h => Shows as h d v nm wd) (hd : d ≤ 1000) (hg : A.guards = some []) (hu : A.units < 100)
    (h : ∀ h' u tk, Fr h₀ L h' m → News h₀ L h' news → Q (.str nm u) { s with heap := h', toks := tk }) : wpAny (model prog06 w) A (call (.builtin "repr") [v]) Q E s := by
  have S := G s.heap F.keep fun p hp => (N p hp).1
  exact repr_call (d := d) S.r hg (fun b _ => clearNil) (by rw [show cLine = 9900 from rfl]; omega) (fun b o e => e) fun h' u tk k => h h' u tk (F.keeps k) (N.keeps k)
theorem ne_str_same {x : Str} {t u : Tok} (h : Q (.bool false) s) : wpAny (model prog06 w) A (compareOp .NotEq (.str x t) (.str x u)) Q E s := by
  refine PyProof.Rows.ne_str ?_
  rw [show (x != x) = false by simp]; exact h
theorem last_any {ta : Addr} {ths : List Value} {n : Nat} {value slice : Expr} {u : Tok} (N : News h₀ L s.heap news) (hm : (ta, W.listOf ths.toArray n) ∈ news) (hz : ths.length ≤ 1000) (hl : ths[ths.length - 1]? = some v) (h : Q v s)
    (hs : subscripted slice false (.ref ta) (.int (-1) u) = operate [.ref ta, .int (-1) u] (getItem (.ref ta) (.int (-1) u)) := by with_unfolding_all rfl) :
    wpAny (model prog06 w) A (subscriptTail value slice (.ref ta) (.int (-1) u)) Q E s := by
  have hl' : s.heap.IsList ta ths.toArray := ⟨_, (N _ hm).1, rfl, n, rfl⟩
  have hp : 0 < ths.length := by
    cases ths with
    | nil => simp at hl
    | cons => simp
  have hsz : ths.toArray.size = ths.length := by simp
  refine tail_any hl'.typeIs slot_list_getitem.lookup (wpAny_getItem_list_neg hl' (by omega) (by omega) (by omega) ?_ h) hs
  have e : (-1 + (ths.toArray.size : Int)).toNat = ths.length - 1 := by rw [hsz]; omega
  rw [e]; simpa using hl
end
abbrev mapS (m₀ : Str → Option Value) (ta : Addr) (nm wd : Str) (u1 u2 : Tok) : Str → Option Value :=
  fun y => if y = Str.ofString "things" then some (.ref ta) else if y = Str.ofString "name" then some (.str nm u1) else if y = Str.ofString "words" then some (.str wd u2) else m₀ y

local macro_rules | `(tactic| walk_at "subscriptTail Name UnaryOp") => `(tactic| (k_here; k_dflt (refine' last_any ?k1 ?k2 ?k3 ?k4 ?_ ?k5; (case k1 => k_asm); (case k2 => assumption); (case k3 => assumption); (case k4 => assumption); (case k5 => with_unfolding_all rfl))))
local macro_rules | `(tactic| walk_at "subscriptTail Name UnaryOp ref int") => `(tactic| (k_here; k_dflt (refine' last_any ?k1 ?k2 ?k3 ?k4 ?_ ?k5; (case k1 => k_asm); (case k2 => assumption); (case k3 => assumption); (case k4 => assumption); (case k5 => with_unfolding_all rfl))))
local macro_rules | `(tactic| walk_at "call type:str") => `(tactic| (k_here; k_dflt (refine' show_str ?k1 ?k2 ?k3 ?k4 ?k5 ?k6 ?_; (case k1 => k_asm); (case k2 => k_asm); (case k3 => assumption); (case k4 => assumption); (case k5 => rfl); (case k6 => exact (by decide : (7 : Nat) < 100))); intro h' u' tk' F' N'))
local macro_rules | `(tactic| walk_at "call builtin:repr") => `(tactic| (k_here; k_dflt (refine' show_repr ?k1 ?k2 ?k3 ?k4 ?k5 ?k6 ?_; (case k1 => k_asm); (case k2 => k_asm); (case k3 => assumption); (case k4 => assumption); (case k5 => rfl); (case k6 => exact (by decide : (7 : Nat) < 100))); intro h' u' tk' F' N'))
local macro_rules | `(tactic| walk_at "compareOp NotEq str str") => `(tactic| (k_here; with_reducible refine ne_str_same ?_))
set_option maxRecDepth 100000 in
set_option maxHeartbeats 3000000 in
theorem show_turn {w : World} {mean : ExcName → Option Value} {mg mb : Str → Option Value} {a : Addr} {ccd : Value} {base h₀ : Heap} {L : Addr} {m₀ : Str → Option Value} {ta : Addr} {news : List (Addr × Obj)} {ths : List Value} {n : Nat} {s : Shared} {v : Value} {as : List Addr} {d : Nat} {nm wd : Str} {u1 u2 : Tok}
    {Q : Flow → Shared → Prop} {E : Value → Shared → Prop}
    (B : Below callerA base [] h₀) (F : Fr h₀ L s.heap (mapS m₀ ta nm wd u1 u2)) (X : (hd06.heap_39 w.params).In h₀) (N : News h₀ L s.heap news) (T : Top hd06.view_39 (looseW hd06.view_39 []) mean mg mb h₀)
    (hm : (ta, W.listOf ths.toArray n) ∈ news) (hz : ths.length ≤ 1000) (hl : ths[ths.length - 1]? = some v) (G : On h₀ news fun h => Shows as h d v nm wd) (hd : d ≤ 1000)
    (fin : ∀ h' tk', Fr h₀ L h' (mapS m₀ ta nm wd u1 u2) → News h₀ L h' news → Q .next { s with heap := h', toks := tk' }) :
    wpAny (model prog06 w) (callerA.deeper (lawE L a ccd)) (exec showIf (lawE L a ccd)) Q E s := by
  have hfill : PySem.Challenge.rw_dm0148_06.about = PySem.Challenge.rw_dm0148_06.about ∧ hd06.heap_39 = hd06.heap_39 := by k_fill; exact ⟨rfl, rfl⟩
  clear hfill
  conv in (exec _ _) => arg 1; whnf
  w_strict (k_steps)
  exact fin _ _ (by assumption) (by assumption)
end Mine
end

-- Tail06
section
open PySem PySem.W PyProof.Rows PySem.Spec PySem.Calls
set_option linter.unusedVariables false
namespace Mine
abbrev E0 : Value → Shared → Prop := fun _ _ => False
abbrev valK (ks : List (Int × Tok)) : List Value := ks.map fun k => Value.int k.1 k.2
section
variable {w : World} {mean : ExcName → Option Value} {mg mb : Str → Option Value} {a : Addr} {ccd : Value} {base h₀ : Heap} {L : Addr} {s : Shared} {Q : Flow → Shared → Prop}
theorem kinds_local {L a : Addr} {ccd : Value} : (lawE L a ccd).kindOf (Str.ofString "kinds") = some .local := by kernel_rfl
theorem law_fn {L a : Addr} {ccd : Value} : (lawE L a ccd).scope.kind = .function := by kernel_rfl

theorem kind_stmt {m : Str → Option Value} {ka : Addr} {ks : List (Int × Tok)} {nk : Nat} {news : List (Addr × Obj)} (F : Fr h₀ L s.heap m) (N : News h₀ L s.heap news) (hv : m (Str.ofString "kinds") = some (.ref ka)) (hm : (ka, W.listOf (valK ks).toArray nk) ∈ news)
    (rest : ∀ I px, (∀ p ∈ news, p.1 < I) → ItemsRest prog06 w (callerA.deeper (lawE L a ccd)) E0 h₀ (lawE L a ccd) (.Name (Str.ofString "kind") px) kindB Q s [(I, "list_iterator")] [(ka, W.listOf (valK ks).toArray nk)] (ks.map fun k => Itm.val (.int k.1 k.2)) m news) :
    wpAny (model prog06 w) (callerA.deeper (lawE L a ccd)) (exec kindFor (lawE L a ccd)) Q E0 s := by
  have e : kindFor = .For (.Name (Str.ofString "kind") { line := 41, col := 16, endLine := 41, endCol := 20 }) (.Name (Str.ofString "kinds") { line := 41, col := 24, endLine := 41, endCol := 29 }) kindB [] { line := 41, col := 12, endLine := 47, endCol := 59 } := by with_unfolding_all rfl
  rw [e]
  refine For_turns (env := lawE L a ccd) F (wpAny_Name (wpAny_loadName_local law_fn kinds_local F.ns hv ?_)) (by intro _; rfl) PassesOwn.never
  refine iter_listTurns (vs := valK ks) (n := nk) rfl F N hm rfl rfl fun I hI => ?_
  have z := rest I { line := 41, col := 16, endLine := 41, endCol := 20 } hI
  rw [show (ks.map fun k => Itm.val (.int k.1 k.2)) = (valK ks).map Itm.val by simp] at z
  exact z
end

set_option maxRecDepth 100000 in
set_option maxHeartbeats 3000000 in
theorem check_stmt {w : World} {mean : ExcName → Option Value} {mg mb : Str → Option Value} {a : Addr} {ccd : Value} {base h₀ : Heap} {L : Addr} {s : Shared} {Q : Flow → Shared → Prop} {m : Str → Option Value} {ka : Addr} {ks : List (Int × Tok)} {nk : Nat} {news : List (Addr × Obj)}
    (B : Below callerA base [] h₀) (F : Fr h₀ L s.heap (fun y => if y = Str.ofString "kinds" then some (.ref ka) else m y)) (X : (hd06.heap_39 w.params).In h₀) (N : News h₀ L s.heap news) (T : Top hd06.view_39 (looseW hd06.view_39 []) mean mg mb h₀) (hm : (ka, W.listOf (valK ks).toArray nk) ∈ news)
    (rest : ∀ I p1 p2 p3 tk, (∀ p ∈ news, p.1 < I) → ItemsRest prog06 w (callerA.deeper (lawE L a ccd)) E0 h₀ (lawE L a ccd) (.Tuple [.Name (Str.ofString "k") p1, .Name (Str.ofString "kind") p2] 0 p3) checkB Q { s with toks := tk } [(I + 1, "enumerate"), (I, "list_iterator")] [(ka, W.listOf (valK ks).toArray nk)] (enumItems 0 (valK ks)) (fun y => if y = Str.ofString "kinds" then some (.ref ka) else m y) news) :
    wpAny (model prog06 w) (callerA.deeper (lawE L a ccd)) (exec checkFor (lawE L a ccd)) Q E0 s := by
  have hfill : PySem.Challenge.rw_dm0148_06.about = PySem.Challenge.rw_dm0148_06.about ∧ hd06.heap_39 = hd06.heap_39 := by k_fill; exact ⟨rfl, rfl⟩
  clear hfill
  conv in (exec _ _) => arg 1; whnf
  refine For_turns (env := lawE L a ccd) F ?_ (by intro _; rfl) PassesOwn.never
  w_strict (k_steps)
  exact ktu_enum (env := lawE L a ccd) (vs := valK ks) (n := nk) rfl (by assumption) (by assumption) hm rfl rfl rfl fun I hI => rest _ _ _ _ _ hI

section
variable {w : World} {mean : ExcName → Option Value} {mg mb : Str → Option Value} {a : Addr} {ccd : Value} {base h₀ : Heap} {L : Addr} {s : Shared} {Q : Flow → Shared → Prop} {m₁ m : Str → Option Value} {ka ta : Addr} {ks : List (Int × Tok)} {nk n : Nat} {tw0 tw : List (Addr × Obj)} {b0 D v : Value} {ts : List Value} {nm wd : Str} {Ty : String}
def FR (m₁ m : Str → Option Value) : Prop := ∀ y, y ≠ Str.ofString "kind" → y ≠ Str.ofString "name" → y ≠ Str.ofString "words" → y ≠ Str.ofString "k" → y ≠ Str.ofString "err" → y ≠ Str.ofString "below" → m y = m₁ y
theorem mapS_eq {u1 u2 : Tok} (h1 : m (Str.ofString "things") = some (.ref ta)) (h2 : m (Str.ofString "name") = some (.str nm u1)) (h3 : m (Str.ofString "words") = some (.str wd u2)) : m = mapS m ta nm wd u1 u2 := by
  refine funext fun y => ?_
  unfold mapS
  by_cases c1 : y = Str.ofString "things"
  · subst c1; exact h1
  · rw [if_neg c1]
    by_cases c2 : y = Str.ofString "name"
    · subst c2; exact h2
    · rw [if_neg c2]
      by_cases c3 : y = Str.ofString "words"
      · subst c3; exact h3
      · rw [if_neg c3]
theorem mapKs_eq (h1 : m (Str.ofString "kinds") = some (.ref ka)) : m = fun y => if y = Str.ofString "kinds" then some (.ref ka) else m y := by
  refine funext fun y => ?_
  by_cases c1 : y = Str.ofString "kinds"
  · subst c1; exact h1
  · rw [if_neg c1]

theorem tail2 (B : Below callerA base [] h₀) (X : (hd06.heap_39 w.params).In h₀) (T : Top hd06.view_39 (looseW hd06.view_39 []) mean mg mb h₀)
    (S : St h₀ tw0 ta b0 (ks.map Prod.fst) ts v nm wd tw) (K : FK m₁ nm wd m) (F : Fr h₀ L s.heap m) (N : News h₀ L s.heap ((ta, W.listOf (ts ++ [v]).toArray n) :: tw))
    (ht1 : m₁ (Str.ofString "things") = some (.ref ta)) (hd1 : m₁ (Str.ofString "due") = some D) (hk1 : m₁ (Str.ofString "kinds") = some (.ref ka)) (hka : (ka, W.listOf (valK ks).toArray nk) ∈ tw0) (hall : ks.length ≤ 90) (h6 : ∀ k ∈ ks, 0 ≤ k.1 ∧ k.1 < 6)
    (hk0 : (ks.map Prod.fst)[0]? = some 0 ∨ (ks.map Prod.fst)[0]? = some 2) (hh : handedIn b0 = true) (hTb : On h₀ tw0 fun h => TypC h b0 Ty) (hTd : On h₀ tw0 fun h => TypC h D Ty) (hTn : (Value.type Ty == Value.type "builtin_function_or_method") = false) (hN : On h₀ tw0 fun h => NeC h b0 D)
    (fin : ∀ m' h tk, FR m₁ m' → Fr h₀ L h m' → News h₀ L h tw0 → Q .next { s with heap := h, toks := tk }) :
    wpAny (model prog06 w) (callerA.deeper (lawE L a ccd)) (execs [showIf, checkFor] (lawE L a ccd)) Q E0 s := by
  obtain ⟨u1, e1⟩ := K.name
  obtain ⟨u2, e2⟩ := K.words
  have e3 : m (Str.ofString "things") = some (.ref ta) := (K.rest _ (by decide) (by decide) (by decide)).trans ht1
  have e4 : m (Str.ofString "kinds") = some (.ref ka) := (K.rest _ (by decide) (by decide) (by decide)).trans hk1
  have e5 : m (Str.ofString "due") = some D := (K.rest _ (by decide) (by decide) (by decide)).trans hd1
  have em := mapS_eq e3 e1 e2
  have hlen : ts.length ≤ 90 := by have := S.len; simp at this; omega
  obtain ⟨as, has, G⟩ := S.top
  refine wpAny_execs_cons (show_turn (m₀ := m) (ths := ts ++ [v]) (n := n) (v := v) (as := as) (d := ts.length + 2) B (em ▸ F) X N T (.head _) (by simp; omega) (by simp) (fun h k hs => (G h k fun p hp => hs p (.tail _ hp)).1) (by omega) fun h' tk' F' N' => ?_)
  rw [← em] at F'
  have em2 := mapKs_eq e4
  refine wpAny_execs_cons (check_stmt (m := m) (nk := nk) (ks := ks) B (em2 ▸ F') X N' T (.tail _ (S.sub _ hka)) fun I p1 p2 p3 tk hI => ?_)
  rw [← em2]
  refine check_rest (m₀ := m) (all := ks.map Prod.fst) (b0 := b0) (Ty := Ty) B X T e3 e5 (S.sub _ hka) (by simp; omega) (fun k hk => ?_) S.fl hk0 hh (hTb.sub S.sub) (hTd.sub S.sub) hTn (hN.sub S.sub) hI (fun m' h tk C F2 N2 => ?_) ks 0 m (by simp) (by simp) (fun _ _ _ _ _ => rfl)
  · obtain ⟨q, hq, rfl⟩ := List.mem_map.mp hk
    exact h6 q hq
  · exact wpAny_execs_nil (fin m' h tk (fun y c1 c2 c3 c4 c5 c6 => (C y c4 c1 c5 c6).trans (K.rest y c1 c2 c3)) F2 fun p hp => N2 p (.tail _ (S.sub p hp)))
end
end Mine
end

-- Tail3
section
open PySem PySem.W PyProof.Rows PySem.Spec PySem.Calls
set_option linter.unusedVariables false
namespace Mine
section
variable {w : World} {mean : ExcName → Option Value} {mg mb : Str → Option Value} {a : Addr} {ccd : Value} {base h₀ : Heap} {L : Addr} {s : Shared} {Q : Flow → Shared → Prop} {m₁ : Str → Option Value} {na ka ta : Addr} {k : Int} {t : Tok} {ks : List (Int × Tok)} {nk n nn : Nat} {tw0 : List (Addr × Obj)} {core D : Value} {nm wd rt : Str} {Ty : String} {u1 u2 t0 t1 t2 t3 : Tok} {as : List Addr}
/-- the tower, what it shows, its checks: a first floor that takes the core as it is -/
theorem tail3 (B : Below callerA base [] h₀) (X : (hd06.heap_39 w.params).In h₀) (T : Top hd06.view_39 (looseW hd06.view_39 []) mean mg mb h₀)
    (F : Fr h₀ L s.heap m₁) (N : News h₀ L s.heap ((ta, W.listOf #[core] n) :: tw0)) (hne : NeAll ta tw0)
    (hn1 : m₁ (Str.ofString "names") = some (.ref na)) (ht1 : m₁ (Str.ofString "things") = some (.ref ta)) (hd1 : m₁ (Str.ofString "due") = some D) (hk1 : m₁ (Str.ofString "kinds") = some (.ref ka)) (hm1 : m₁ (Str.ofString "name") = some (.str nm u1)) (hw1 : m₁ (Str.ofString "words") = some (.str wd u2))
    (hna : (na, W.listOf (namesL t0 t1 t2 t3) nn) ∈ tw0) (hka : (ka, W.listOf (valK ((k, t) :: ks)).toArray nk) ∈ tw0) (hall : ks.length ≤ 80) (h6 : ∀ q ∈ ((k, t) :: ks : List (Int × Tok)), 0 ≤ q.1 ∧ q.1 < 6) (hk0 : k = 0 ∨ k = 2)
    (hC : CoreV h₀ tw0 core nm wd) (hTr : k < 2 → On h₀ tw0 fun h => Truth h core true) (hnl : nm.length ≤ 100)
    (hh : handedIn core = true) (hTb : On h₀ tw0 fun h => TypC h core Ty) (hTd : On h₀ tw0 fun h => TypC h D Ty) (hTn : (Value.type Ty == Value.type "builtin_function_or_method") = false) (hN : On h₀ tw0 fun h => NeC h core D)
    (fin : ∀ m' h tk, FR m₁ m' → Fr h₀ L h m' → News h₀ L h tw0 → Q .next { s with heap := h, toks := tk }) :
    wpAny (model prog06 w) (callerA.deeper (lawE L a ccd)) (execs [kindFor, showIf, checkFor] (lawE L a ccd)) Q E0 s := by
  refine wpAny_execs_cons (kind_stmt (ks := (k, t) :: ks) F N hk1 (.tail _ hka) fun I px hI => ?_)
  refine kinds_whole (core := core) (nm := nm) (wd := wd) (m₀ := m₁) B X T hn1 ht1 hna hka (by simp; omega) h6 hC hTr hnl ⟨⟨_, hm1⟩, ⟨_, hw1⟩, fun _ _ _ _ => rfl⟩ (fun p hp => Nat.ne_of_lt (hI p (.tail _ hp))) (Nat.ne_of_lt (hI _ (.head _))) hne fun ts v nm' wd' tw m n' h tk S K F' N' => ?_
  refine tail2 (ks := (k, t) :: ks) B X T S K F' N' ht1 hd1 hk1 hka (by simp; omega) h6 ?_ hh hTb hTd hTn hN fin
  rcases hk0 with rfl | rfl
  · exact .inl rfl
  · exact .inr rfl
/-- ... a first BadStatusLine of an empty core -/
theorem tail3f (B : Below callerA base [] h₀) (X : (hd06.heap_39 w.params).In h₀) (T : Top hd06.view_39 (looseW hd06.view_39 []) mean mg mb h₀)
    (F : Fr h₀ L s.heap m₁) (N : News h₀ L s.heap ((ta, W.listOf #[core] n) :: tw0)) (hne : NeAll ta tw0)
    (hn1 : m₁ (Str.ofString "names") = some (.ref na)) (ht1 : m₁ (Str.ofString "things") = some (.ref ta)) (hd1 : m₁ (Str.ofString "due") = some D) (hk1 : m₁ (Str.ofString "kinds") = some (.ref ka)) (hm1 : m₁ (Str.ofString "name") = some (.str nm u1)) (hw1 : m₁ (Str.ofString "words") = some (.str wd u2))
    (hna : (na, W.listOf (namesL t0 t1 t2 t3) nn) ∈ tw0) (hka : (ka, W.listOf (valK ((0, t) :: ks)).toArray nk) ∈ tw0) (hall : ks.length ≤ 80) (h6 : ∀ q ∈ ((0, t) :: ks : List (Int × Tok)), 0 ≤ q.1 ∧ q.1 < 6)
    (hC : ∀ u, CoreV h₀ tw0 (.str rt u) nm wd) (hTr : On h₀ tw0 fun h => Truth h core false) (hR : On h₀ tw0 fun h => Rep as h 1 core rt) (hnl : nm.length ≤ 100)
    (hTb : ∀ u, On h₀ tw0 fun h => TypC h (.str rt u) Ty) (hTd : On h₀ tw0 fun h => TypC h D Ty) (hTn : (Value.type Ty == Value.type "builtin_function_or_method") = false) (hN : ∀ u, On h₀ tw0 fun h => NeC h (.str rt u) D)
    (fin : ∀ m' h tk, FR m₁ m' → Fr h₀ L h m' → News h₀ L h tw0 → Q .next { s with heap := h, toks := tk }) :
    wpAny (model prog06 w) (callerA.deeper (lawE L a ccd)) (execs [kindFor, showIf, checkFor] (lawE L a ccd)) Q E0 s := by
  refine wpAny_execs_cons (kind_stmt (ks := (0, t) :: ks) F N hk1 (.tail _ hka) fun I px hI => ?_)
  refine kinds_whole0 (core := core) (nm := nm) (wd := wd) (rt := rt) (as := as) (m₀ := m₁) B X T hn1 ht1 hna hka (by simp; omega) h6 hC hTr hR hnl ⟨⟨_, hm1⟩, ⟨_, hw1⟩, fun _ _ _ _ => rfl⟩ (fun p hp => Nat.ne_of_lt (hI p (.tail _ hp))) (Nat.ne_of_lt (hI _ (.head _))) hne fun u ts v nm' wd' tw m n' h tk S K F' N' => ?_
  exact tail2 (ks := (0, t) :: ks) B X T S K F' N' ht1 hd1 hk1 hka (by simp; omega) h6 (.inl rfl) rfl (hTb u) hTd hTn (hN u) fin
end
end Mine
end

-- NeCs
section
open PySem PySem.W PyProof.Rows PySem.Spec PySem.Calls
set_option maxRecDepth 100000
set_option linter.unusedVariables false
set_option linter.deprecated false
namespace Mine
section
variable {h : Heap} {a : Addr} {n : Nat} {t u : Tok}
theorem cl100 {k : Nat} (h : k < 100) : k < cLine := by rw [show cLine = 9900 from rfl]; omega
theorem ne_none : NeC h .none .none := fun prog w A Q E s hu hk hQ => PySem.EqNone.ne_none_none (hQ s.toks)
theorem ne_false : NeC h (.bool false) (.bool false) := fun prog w A Q E s hu hk hQ => ne_bool (hQ s.toks)
theorem ne_zero : NeC h (.int 0 t) (.int 0 u) := fun prog w A Q E s hu hk hQ => PyProof.Rows.ne_int (hQ s.toks)
theorem ne_bytes0 : NeC h (.bytes #[] t) (.bytes #[] u) := fun prog w A Q E s hu hk hQ => ne_bytes (hQ s.toks)
theorem ne_text {x : Str} : NeC h (.str x t) (.str x u) := fun prog w A Q E s hu hk hQ => PyProof.Rows.ne_str (by rw [show (x != x) = false by simp]; exact hQ s.toks)
theorem ne_list0 (ha : h.get? a = some ⟨.type "list", none, .seq #[] n, #[]⟩) : NeC h (.ref a) (.ref a) := fun prog w A Q E s hu hk hQ =>
  PySem.EqBoolInt.of_rcne (SeqAt.RcNeAt.lists (items := #[]) (items2 := #[]) (e := fun _ => true) ⟨_, hk _ _ ha, rfl, n, rfl⟩ ⟨_, hk _ _ ha, rfl, n, rfl⟩ rfl (cl100 hu) (fun j h1 => absurd h1 (Nat.not_lt_zero _))) (hQ s.toks)
theorem ne_tuple0 (ha : h.get? a = some ⟨.type "tuple", none, .seq #[] n, #[]⟩) : NeC h (.ref a) (.ref a) := fun prog w A Q E s hu hk hQ =>
  PySem.EqBoolInt.of_rcne (SeqAt.RcNeAt.tuples (items := #[]) (items2 := #[]) (e := fun _ => true) ⟨_, hk _ _ ha, rfl, n, rfl⟩ ⟨_, hk _ _ ha, rfl, n, rfl⟩ (cl100 hu) (fun j h1 => absurd h1 (Nat.not_lt_zero _))) (hQ s.toks)
theorem ne_dict0 (ha : h.get? a = some ⟨.type "dict", none, .dict #[] n, #[]⟩) (hs : a ≠ sysModules) : NeC h (.ref a) (.ref a) := fun prog w A Q E s hu hk hQ => by
  have d : s.heap.DictOf (strKind prog w) a [] := ⟨_, #[], n, hk _ _ ha, ⟨rfl, rfl, rfl⟩, rfl, (by intro e he; cases he <;> simp_all), (by constructor), (by simp)⟩
  exact keq_ne (knd := strKind prog w) (r := true) (beq_eq_false_iff_ne.mpr hs) (beq_eq_false_iff_ne.mpr hs) d d (cl100 hu) (fun _ => .nil) (hQ s.toks)
theorem slot_ane : Slot "bytearray" (cmpInfo .NotEq).2.1 "bytearray.__ne__" :=
  .of (owner := "bytearray") (n := "__ne__") (by rw [typeLookup_type, builtinLookup_eq_fast]; kernel_rfl) (by decide +kernel) (by decide +kernel) (by decide +kernel) (by first | exact .inl (by decide +kernel) | exact .inr (by decide +kernel)) (by rw [isSubtype_type]; kernel_rfl)
theorem entry_ane : entryFor table "bytearray.__ne__" = some Builtin.«bytearray.__ne__» := entryFor_of_tree (by kernel_rfl)
theorem args_ane (a b : Value) : argsOk "bytearray.__ne__" ⟨[a, b], []⟩ := by unfold argsOk; kernel_rfl
theorem look_abuf : typeLookup (.type "bytearray") "__buffer__" = pure (some (.builtin "bytearray.__buffer__")) := by rw [typeLookup_type, builtinLookup_eq_fast]; kernel_rfl
theorem look_arel : typeLookup (.type "bytearray") "__release_buffer__" = pure (some (.builtin "bytearray.__release_buffer__")) := by rw [typeLookup_type, builtinLookup_eq_fast]; kernel_rfl
theorem own_ba {M : Model} {A : Around} {s : Shared} {E : Value → Shared → Prop} {Q : Bool → Shared → Prop} {name id : String} (hT : s.TypeIs (.ref a) "bytearray") (hl : typeLookup (.type "bytearray") (Str.ofString name) = pure (some (.builtin id)))
    (h1 : id.endsWith ("." ++ name) = true) (h2 : id.dropRight (name.length + 1) = "bytearray") (hQ : Q true s) : wpAny M A (Builtin.Bytes.slotIsOwn (.ref a) name) Q E s := by
  unfold Builtin.Bytes.slotIsOwn
  refine wpAny_bind (wpAny_specialOf hT hl ?_)
  dsimp only
  rw [h1, h2]
  exact wpAny_isInstance (T := "bytearray") (b := true) hT (by rw [isSubtype_type]; kernel_rfl) hQ
theorem buf_ba {M : Model} {A : Around} {s : Shared} {id : String} {E : Value → Shared → Prop} {Q : Option (Array UInt8) → Shared → Prop} (ha : s.heap.get? a = some baObj) (hQ : Q (some #[]) s) : wpAny M A (Builtin.Bytes.buffer? id (.ref a)) Q E s := by
  have hT : s.TypeIs (.ref a) "bytearray" := ⟨_, ha, rfl⟩
  unfold Builtin.Bytes.buffer?
  refine wpAny_bind (wpAny_specialOf hT look_abuf ?_)
  dsimp only
  refine wpAny_bind (own_ba hT look_abuf (by decide +kernel) (by decide +kernel) ?_)
  simp only [Bool.not_true, Bool.false_eq_true, if_false]
  refine wpAny_bind (wpAny_specialOf hT look_abuf ?_)
  refine wpAny_bind ?_
  unfold Builtin.Bytes.ownRelease
  refine wpAny_bind (own_ba hT look_arel (by decide +kernel) (by decide +kernel) (wpAny_pure ?_))
  simp only [Bool.not_true, Bool.false_eq_true, if_false]
  unfold Builtin.Bytes.payload Builtin.Bytes.payload?
  exact wpAny_bind (wpAny_bind (wpAny_bind (wpAny_load ha (wpAny_pure (wpAny_pure (wpAny_pure hQ))))))
theorem ne_ba (ha : h.get? a = some baObj) : NeC h (.ref a) (.ref a) := fun prog w A Q E s hu hk hQ => by
  have ha' := hk _ _ ha
  have hT : s.TypeIs (.ref a) "bytearray" := ⟨_, ha', rfl⟩
  refine cmp_ofNotEq (wpAny_richCompare_same_room (op := .NotEq) hT hT slot_ane (wpAny_call_entry slot_ane hT entry_ane ?_ (args_ane _ _)) (cl100 hu))
  unfold Builtin.«bytearray.__ne__»
  refine wpAny_bind (Q := _) (wpAny_of_eq (a := (Value.ref a, [Value.ref a])) rfl ?_)
  refine wpAny_bind (buf_ba ha' ?_)
  refine wpAny_bind ?_
  unfold Builtin.Bytes.bufferQuiet?
  refine wpAny_bind (wpAny_attempt (buf_ba ha' (wpAny_pure ?_)))
  exact wpAny_pure ⟨_, rfl, (fun x => nomatch x), hQ s.toks⟩
end
end Mine
end

-- Ba
section
open PySem PySem.W PyProof.Rows PySem.Spec PySem.Calls
set_option maxRecDepth 100000
set_option linter.unusedVariables false
namespace Mine
theorem mro_ba : mroOf (.type "bytearray") = pure [.type "bytearray", .type "object"] := by rw [mroOf_type]; kernel_rfl
theorem lookup_ba_new : typeLookup (.type "bytearray") "__new__" = pure (some (.builtin "bytearray.__new__")) := by rw [typeLookup_type, builtinLookup_eq_fast]; kernel_rfl
theorem slot_ba_init : Slot "bytearray" "__init__" "bytearray.__init__" :=
  .of (owner := "bytearray") (n := "__init__") (by rw [typeLookup_type, builtinLookup_eq_fast]; kernel_rfl) (by decide +kernel) (by decide +kernel) (by decide +kernel) (by first | exact .inl (by decide +kernel) | exact .inr (by decide +kernel)) (by rw [isSubtype_type]; kernel_rfl)
theorem called_ba : TypeCalled "bytearray" "bytearray.__new__" "bytearray.__init__" :=
  ⟨by decide +kernel, by decide +kernel, ⟨_, _, mro_ba⟩, madeBy_type mro_ba lookup_ba_new (by decide +kernel), by decide +kernel, by rw [isSubtype_type]; kernel_rfl, slot_ba_init⟩
theorem typeCall_ba : checkTypeCall "bytearray" ⟨[], []⟩ = pure () := by kernel_rfl
theorem newCall_ba : checkBuiltinCall "bytearray.__new__" ⟨[.type "bytearray"], []⟩ = pure () := by kernel_rfl
theorem entry_ba_new : entryFor table "bytearray.__new__" = some Builtin.«list.__new__» := entryFor_alias (id' := "list.__new__") (by rw [fastTable_eq_tree]; kernel_rfl) (by decide +kernel) (by decide +kernel) (by rw [fastTable_eq_tree]; kernel_rfl)
theorem plain_ba_new : plainId "bytearray.__new__" = true := by decide +kernel
theorem entry_ba_init : entryFor table "bytearray.__init__" = some Builtin.«bytearray.__init__» := entryFor_of_tree (by kernel_rfl)
theorem args_ba_init (a : Value) : argsOk "bytearray.__init__" ⟨[a], []⟩ := by unfold argsOk; kernel_rfl
set_option maxRecDepth 1000000 in
set_option maxHeartbeats 4000000 in
theorem owner_ba_new : ("bytearray.__new__".splitOn ".__new__").headD "" = "bytearray" := by simp +decide [String.splitOn, String.splitOnAux]
section
variable {prog : Program} {w : World} {A : Around} {E : Value → Shared → Prop} {s : Shared}
theorem code_ba_new {Q₁ : Value → Shared → Prop} (h : Q₁ (.ref s.heap.objs.size) { s with heap := s.heap.push baObj }) :
    codeAny (model prog w) A (.call (.builtin "bytearray.__new__") ⟨[.type "bytearray"], []⟩) (wants Q₁ E) s := by
  refine codeAny_of_tree ?_
  show wpAny _ A.in1 (do checkBuiltinCall "bytearray.__new__" ⟨[.type "bytearray"], []⟩; again (.builtin "bytearray.__new__" ⟨[.type "bytearray"], []⟩)) _ _ s
  refine wpAny_bind (wpAny_of_eq newCall_ba (wpAny_pure ⟨plainId_quiet plain_ba_new _, codeAny_builtin_stack entry_ba_new rfl fun p st => ?_⟩))
  rw [Around.under_plainId plain_ba_new _]
  have hsub := called_ba.sub
  have hown := owner_ba_new
  obtain ⟨hp, g, d, tk, os⟩ := s
  simp only [hown]
  wp_walk
  exact h
end
end Mine
end

-- Ba2
section
open PySem PySem.W PyProof.Rows PySem.Calls
set_option maxRecDepth 100000
set_option linter.unusedVariables false
namespace Mine
section
variable {prog : Program} {w : World} {A : Around} {E : Value → Shared → Prop} {s : Shared} {Γ : Ctx} {a : Addr}
theorem write_ba {M : Model} {Q : Unit → Shared → Prop} (ha : s.heap.get? a = some baObj) (hQ : ∀ h', h'.get? a = some baObj → Heap.SameBut a s.heap h' → Q () { s with heap := h' }) : wpAny M A (Builtin.Bytes.write (.ref a) fun _ => #[]) Q E s := by
  unfold Builtin.Bytes.write updateBytearray
  refine wpAny_bind (wpAny_load ha ?_)
  dsimp only
  refine wpAny_bind (wpAny_update ha ?_)
  have hg : (s.heap.update a (Obj.mapBytearray fun _ => #[])).get? a = some baObj := Heap.get?_update_self _ ha rfl
  exact wpAny_lookBehind (o := baObj) hg rfl (hQ _ hg (Heap.SameBut.update ..))

theorem init_ba {p1 p2 p3 : Pos} {Γ : Ctx} {body : List Stmt} {env : Env} {Q : Fin → Shared → Prop} (hΓ : Γ.In A) (hc : Γ.code = .builtin "bytearray.__init__" ⟨[.ref a], []⟩) (hb : Γ.below = [(.builtin "type.__call__" ⟨[.type "bytearray"], []⟩, p1), (.func body env, p2), (.builtin "claim.caller" {}, p3)])
    (ha : s.heap.get? a = some baObj) (hQ : ∀ h', h'.get? a = some baObj → Heap.SameBut a s.heap h' → Q (.done (.ret .none)) { s with heap := h' }) : wpG (model prog w) Γ (Builtin.«bytearray.__init__» ⟨[.ref a], []⟩) Q E s := by
  have hT : s.TypeIs (.ref a) "bytearray" := ⟨_, ha, rfl⟩
  unfold Builtin.«bytearray.__init__»
  refine wpG_bind (wpG_any hΓ ?_)
  unfold Builtin.Bytes.ownRelease
  refine wpAny_bind (own_ba hT look_arel (by decide +kernel) (by decide +kernel) (wpAny_pure ?_))
  simp only [Bool.not_true, Bool.false_eq_true, if_false]
  refine wpG_bind (wpG_any hΓ (wpAny_of_eq (a := [none, none, none]) (by rfl) ?_))
  dsimp only
  refine wpG_bind (wpG_any hΓ (wpAny_of_eq (a := ()) (by rfl) ?_))
  refine wpG_bind (wpG_any hΓ (wpAny_of_eq (a := ()) (by rfl) ?_))
  refine wpG_bind ?_
  unfold Builtin.Bytes.exported
  refine wpG_bind (wpG_bind (wpG_stack fun p => wpG_pure ?_))
  rw [hc, hb]
  have d1 : Builtin.Bytes.decodersThatHold.contains "bytearray.__init__" = false := by decide +kernel
  have d2 : Builtin.Bytes.sameRef (.type "bytearray") (.ref a) = false := rfl
  generalize hv : List.any _ _ = v
  have hv0 : v = false := by
    rw [← hv]
    have e : ((Builtin.Bytes.sameRef (.ref a) (.ref a) && Builtin.Bytes.decodersThatHold.contains "bytearray.__init__") || ((Builtin.Bytes.sameRef (.type "bytearray") (.ref a) && Builtin.Bytes.decodersThatHold.contains "type.__call__") || (false || (false || false)))) = false := by rw [d1, d2, Bool.and_false]; rfl
    exact e
  subst hv0
  clear hv
  show wpG _ _ (Builtin.Bytes.exportsOf (Value.ref a) >>= fun n => pure (decide (n > 0))) _ _ _
  unfold Builtin.Bytes.exportsOf
  refine wpG_any hΓ (wpAny_bind (wpAny_bind (wpAny_load ha (wpAny_pure (wpAny_pure ?_)))))
  show wpG _ _ (if decide (0 > 0) = true then _ else _) _ _ _
  rw [if_neg (by decide)]
  refine wpG_bind (wpG_any hΓ (write_ba ha fun h' hg hs => ?_))
  exact wpG_pure (hQ h' hg hs)

theorem den_call (f : Value) (args : Args) : (model prog w).den (.call f args) = callAny f args := rfl
theorem den_builtin {id : String} {args : Args} {b : Builtin} (hb : entryFor table id = some b) : (model prog w).den (.builtin id args) = b args := by
  simp only [model, denote, hb]
theorem codeG_code {Γ : Ctx} {c : Code} {R : Result → Shared → Prop} {t : Sem Fin} (hc : Γ.code = c) (hd : (model prog w).den c = t) (h : wpG (model prog w) Γ t (fun fin s' => match fin with | .done f => R (.ok f) s' | .again c' => c'.quiet = true ∧ codeG (model prog w) (Γ.goto c') R s') (fun e s' => R (.error e) s') s) : codeG (model prog w) Γ R s :=
  codeG_tree (by rw [hc, hd]; exact h)
theorem call_ba {body : List Stmt} {env : Env} {p3 : Pos} {Q : Value → Shared → Prop} (hΓ : Γ.In A) (hc : Γ.code = .func body env) (hb : Γ.below = [(.builtin "claim.caller" {}, p3)])
    (hQ : ∀ h', h'.get? s.heap.objs.size = some baObj → (∀ b o, s.heap.get? b = some o → h'.get? b = some o) → Q (.ref s.heap.objs.size) { s with heap := h' }) : wpG (model prog w) Γ (PySem.call (.type "bytearray") []) Q E s := by
  refine wpG_call fun p => codeG_code (c := .call (.type "bytearray") ⟨[], []⟩) rfl (den_call _ _) ?_
  have B1 := hΓ.enter (.call (.type "bytearray") ⟨[], []⟩) none p (by intro x; cases x)
  refine wpG_pure ⟨Code.quiet_builtin _ (by decide +kernel), codeG_code (c := .builtin "type.__call__" ⟨[.type "bytearray"], []⟩) rfl (den_builtin PySem.F.entry_type_call) ?_⟩
  have B2 := B1.goto (.builtin "type.__call__" ⟨[.type "bytearray"], []⟩)
  have I2 := B2.in
  have h1 := called_ba.notType
  have h2 := called_ba.canCreate
  have h3 := typeCall_ba
  have h4 := mro_ba
  have h5 := called_ba.made
  unfold Builtin.«type.__call__»
  simp only [h1, Bool.false_eq_true, if_false, h2, h3, h4, h5, pure_bind, List.isEmpty_cons]
  clear h1 h2 h3 h4 h5
  refine wpG_bind (wpG_holding (wpG_any I2 (wpAny_call (codeAny_mono (code_ba_new (E := fun _ _ => False) (Q₁ := fun v s' => v = .ref s.heap.objs.size ∧ s' = { s with heap := s.heap.push baObj }) ⟨rfl, rfl⟩) fun r s₁ hr => ?_))))
  rcases r with e | (v | _ | _ | _) <;> first | exact hr.elim | skip
  obtain ⟨rfl, rfl⟩ := hr
  have ha : (s.heap.push baObj).get? s.heap.objs.size = some baObj := Heap.get?_push_size _ rfl
  have hT : Shared.TypeIs { s with heap := s.heap.push baObj } (.ref s.heap.objs.size) "bytearray" := ⟨_, ha, rfl⟩
  refine wpG_bind (wpG_any I2 (wpAny_isInstance (T := "bytearray") (b := true) hT called_ba.sub ?_))
  rw [if_neg (by decide)]
  refine wpG_bind (wpG_holding ?_)
  unfold callSpecial?
  refine wpG_bind (wpG_any I2 (wpAny_specialOf hT slot_ba_init.lookup ?_))
  refine wpG_holding ?_
  rw [slot_ba_init.bind]
  refine wpG_bind (wpG_pure (wpG_bind ?_))
  refine wpG_call fun p' => codeG_code (c := .call (.builtin "bytearray.__init__") ⟨[.ref s.heap.objs.size], []⟩) rfl (den_call _ _) ?_
  have B3 := I2.enter (.call (.builtin "bytearray.__init__") ⟨[.ref s.heap.objs.size], []⟩) none p' (by intro x; cases x)
  show wpG _ _ (do checkBuiltinCall "bytearray.__init__" ⟨[.ref s.heap.objs.size], []⟩; again (.builtin "bytearray.__init__" ⟨[.ref s.heap.objs.size], []⟩)) _ _ _
  refine wpG_bind (wpG_any B3.in (slot_ba_init.check _ _ _ _ _ _ _ _ hT (args_ba_init _) ?_))
  refine wpG_pure ⟨plainId_quiet (by decide +kernel) _, codeG_code (c := .builtin "bytearray.__init__" ⟨[.ref s.heap.objs.size], []⟩) rfl (den_builtin entry_ba_init) ?_⟩
  have B4 := B3.goto (.builtin "bytearray.__init__" ⟨[.ref s.heap.objs.size], []⟩)
  refine init_ba (p1 := p') (p2 := p) (p3 := p3) (body := body) (env := env) B4.in rfl ?_ ha fun h' hg hs => ?_
  · show [(Code.builtin "type.__call__" _, p'), (Γ.code, p)] ++ Γ.below = _
    rw [hc, hb]; rfl
  · refine wpG_pure ?_
    show wpG _ _ (if (Value.none != Value.none) = true then _ else _) _ _ _
    rw [if_neg (by decide)]
    refine wpG_pure ?_
    exact hQ h' hg fun b o e => (hs.2 b (Nat.ne_of_lt (Heap.lt_size e))).trans (Heap.get?_push_of_some _ e)
end
end Mine
end

-- Enter
section
open PySem PySem.W PyProof.Rows PySem.Calls
set_option maxRecDepth 100000
set_option linter.unusedVariables false
namespace Mine
section
variable {prog : Program} {w : World} {A : Around} {E : Value → Shared → Prop} {s : Shared} {Γ : Ctx}
/-- a call of a def, at one context -/
theorem call_def_G {name : Str} {params : Arguments} {body : List Stmt} {scope : Scope} {dV kV pm cd doc : Value} {a : Addr} {o : Obj} {pos : List Value} {binds : List (Str × Value)} {Q : Value → Shared → Prop} (hΓ : Γ.In A)
    (hroom : A.depth < recursionLimit) (ho : s.heap.get? a = some o) (hdata : o.data = .func { docDef name params body scope pm cd doc with defaults := dV, kwdefaults := kV }) (hlim : s.heap.NoLimit) (hcd : s.heap.CodeRec cd name)
    (hbind : BindsTo s { docDef name params body scope pm cd doc with defaults := dV, kwdefaults := kV } ⟨pos, []⟩ binds) (hloc : ∀ x ∈ binds, scope.names.lookup x.1 = some .local)
    (h : ∀ Γ' p h₁, Γ'.code = .func body (envOf name scope s.heap.objs.size a cd) → Γ'.below = (Γ.code, p) :: Γ.below → Γ'.In (A.deeper (envOf name scope s.heap.objs.size a cd)) → Fr s.heap s.heap.objs.size h₁ (fun x => binds.reverse.lookup x) →
      wpG (model prog w) Γ' (execs body (envOf name scope s.heap.objs.size a cd)) (fun f s' => Q (match f with | .ret v => v | _ => .none) s') (fun _ _ => False) { s with heap := h₁, toks := s.toks + binds.length })
    (hco : scope.isCoroutine = false := by rfl) (hgen : scope.isGenerator = false := by rfl) (hk : scope.kind = .function := by rfl) (hcell : ∀ x ∈ scope.names, x.2 ≠ .cell := by decide) : wpG (model prog w) Γ (PySem.call (.ref a) pos) Q E s := by
  refine wpG_call fun p => codeG_code (c := .call (.ref a) ⟨pos, []⟩) rfl (den_call _ _) ?_
  have B1 := hΓ.enter (.call (.ref a) ⟨pos, []⟩) none p (by intro x; cases x)
  refine wpG_any B1.in ?_
  show wpAny _ A.in1 (callAny (.ref a) ⟨pos, []⟩) _ _ s
  simp only [callAny]
  refine wpAny_bind (wpAny_load ho ?_)
  obtain ⟨c, oc, vs, tq, hc, hoc, hdc, hq⟩ := hcd
  subst hc
  simp only [hdata, callFunction, docDef, hco, hgen]
  refine wpAny_bind (m := field (.ref c) 1) (wpAny_field hoc hdc hq (wpAny_bind (wpAny_pure ?_)))
  refine wpAny_bind (hbind _ _ _ _ (wpAny_bind (wpAny_newFunctionEnv hcell hloc (fun h₀ hns₀ hsb₀ => ?_) hk)))
  have keep : ∀ b o, s.heap.get? b = some o → h₀.get? b = some o := fun b o e => hsb₀.extBut b o (Nat.ne_of_lt (Heap.lt_size e)) (Heap.get?_push_of_some _ e)
  refine wpAny_bind (wpAny_enterFrame (hlim.fresh _ hsb₀) hroom (wpAny_pure (And.intro rfl ?_)))
  have B2 := B1.goto (.func body (envOf name scope s.heap.objs.size a (.ref c)))
  have hh := h ((Γ.enter (.call (.ref a) ⟨pos, []⟩) none p).goto (.func body (envOf name scope s.heap.objs.size a (.ref c)))) p h₀ rfl rfl B2.in ⟨hns₀, keep, Nat.le_refl _⟩
  refine codeG_code (c := .func body (envOf name scope s.heap.objs.size a (.ref c))) rfl (show _ = (do point; match ← (execs body (envOf name scope s.heap.objs.size a (.ref c))).onRaise (leaving (envOf name scope s.heap.objs.size a (.ref c))) with | .ret v => ret v | _ => ret .none) from rfl) ?_
  refine wpG_bind (wpG_any B2.in (wpAny_point (wpG_bind (wpG_onRaise (wpG_mono hh (fun f s' q => ?_) fun _ _ q => q)))))
  cases f <;> exact wpG_pure q
end
end Mine
end

-- S1
section
open PySem PySem.W PyProof.Rows PySem.Calls
set_option maxRecDepth 100000
set_option linter.unusedVariables false
namespace Mine
section
variable {M : Model} {prog : Program} {w : World} {A : Around} {E : Value → Shared → Prop} {s : Shared} {Γ : Ctx} {env : Env}
theorem wpG_execs_cons {st : Stmt} {rest : List Stmt} {Q : Flow → Shared → Prop} (h : wpG M Γ (exec st env) (fun f s' => match f with | .next => wpG M Γ (execs rest env) Q E s' | f => Q f s') E s) : wpG M Γ (execs (st :: rest) env) Q E s := by
  rw [execs_cons]
  refine wpG_bind (wpG_mono h (fun f s' h' => ?_) fun _ _ h' => h')
  cases f <;> first | exact h' | exact wpG_pure h'
theorem wpG_spliced_nil {Q : List Value → Shared → Prop} (h : Q [] s) : wpG M Γ (spliced []) Q E s := wpG_pure h
theorem wpG_spliced_cons {x : Sem Value} {rest : List (Bool × Sem Value)} {Q : List Value → Shared → Prop} (h : wpG M Γ x (fun v s₁ => wpG M Γ (spliced rest) (fun vs s₂ => Q (v :: vs) s₂) E s₁) E s) : wpG M Γ (spliced ((false, x) :: rest)) Q E s := by
  unfold spliced
  refine wpG_bind (wpG_mono h (fun v s₁ h₁ => ?_) fun _ _ h' => h')
  show wpG M Γ (pure [v] >>= fun here => (do return here ++ (← holding here (spliced rest)))) _ _ _
  exact wpG_bind (wpG_pure (wpG_bind (wpG_holding (wpG_mono h₁ (fun vs s₂ h₂ => wpG_pure h₂) fun _ _ h' => h'))))
theorem wpG_assign_list {x : Str} {px pos lp : Pos} {elts : List Expr} {Q : Flow → Shared → Prop} (hΓ : Γ.In A)
    (h : wpG M Γ (spliced (backTo lp (starEach elts env))) (fun vs s₁ => wpG M Γ (newList vs) (fun v s₂ => wpAny M A (storeName env x v) (fun _ => Q .next) E s₂) E s₁) E s)
    (hs : swapsWithSole [.Name x px] (.List elts lp) pos.line env = pure false := by rfl) (hw : swappedStores [.Name x px] (.List elts lp) env = pure none := by rfl) :
    wpG M Γ (exec (.Assign [.Name x px] (.List elts lp) pos) env) Q E s := by
  rw [exec_Assign]
  refine wpG_bind (wpG_standAt ?_)
  rw [hs]
  refine wpG_bind (wpG_pure ?_)
  rw [if_neg (by decide)]
  refine wpG_bind ?_
  show wpG M Γ (do standAt lp; newList (← spliced (backTo lp (starEach elts env)))) _ _ _
  refine wpG_bind (wpG_standAt (wpG_bind (wpG_mono h (fun vs s₁ h₁ => wpG_mono h₁ (fun v s₂ h₂ => ?_) fun _ _ e => e) fun _ _ e => e)))
  rw [hw]
  refine wpG_bind (wpG_pure ?_)
  show wpG M Γ (do assignAll v [assign (.Name x px) env]; (pure Flow.next : Sem Flow)) _ _ _
  exact wpG_any hΓ (wpAny_bind (wpAny_mono (wpAny_assign_Name h₂) (fun _ _ x => wpAny_pure x) fun _ _ x => x))
theorem wpG_call_type0 {id : Str} {p pos : Pos} {T : String} {Q : Value → Shared → Prop} (hΓ : Γ.In A) (h : wpG M Γ (eval (.Name id p) env) (fun f s₁ => f = .type T ∧ wpG M Γ (PySem.call (.type T) []) Q E s₁) E s) : wpG M Γ (eval (.Call (.Name id p) [] [] pos) env) Q E s := by
  rw [arm_eval_Call_Name']
  refine wpG_bind (wpG_mono h (fun f s₁ h₁ => ?_) fun _ _ e => e)
  obtain ⟨rfl, h₁⟩ := h₁
  unfold callWith
  refine wpG_bind (wpG_holding ?_)
  show wpG M Γ (pure (⟨[], []⟩ : Args)) _ _ _
  refine wpG_pure (wpG_bind (wpG_standAt ?_))
  refine wpG_bind (wpG_pure ?_)
  exact wpG_bind (wpG_mono h₁ (fun r s₂ hr => wpG_bind (wpG_holding (wpG_any hΓ (wpAny_point (wpG_pure hr))))) fun _ _ x => x)
end
end Mine
end

-- S1b
section
open PySem PySem.W PyProof.Rows PySem.Calls
set_option linter.unusedVariables false
namespace Mine
theorem wpG_el {M : Model} {E : Value → Shared → Prop} {s : Shared} {Γ : Ctx} {env : Env} {e : Expr} {es : List Expr} {lp : Pos} {Q : List Value → Shared → Prop}
    (h : wpG M Γ (eval e env) (fun v s₁ => wpG M Γ (spliced (backTo lp (starEach es env))) (fun vs s₂ => Q (v :: vs) s₂) E s₁) E s) (he : starEach (e :: es) env = (false, eval e env) :: starEach es env := by rfl) : wpG M Γ (spliced (backTo lp (starEach (e :: es) env))) Q E s := by
  rw [he]
  exact wpG_spliced_cons h
theorem call_ba_N {w : World} {E : Value → Shared → Prop} {s : Shared} {Γ : Ctx} {A : Around} {h₀ : Heap} {L : Addr} {m : Str → Option Value} {news : List (Addr × Obj)} {body : List Stmt} {env : Env} {p3 : Pos} {Q : Value → Shared → Prop}
    (F : Fr h₀ L s.heap m) (N : News h₀ L s.heap news) (hΓ : Γ.In A) (hc : Γ.code = .func body env) (hb : Γ.below = [(.builtin "claim.caller" {}, p3)])
    (h : ∀ b h', Fr h₀ L h' m → News h₀ L h' ((b, baObj) :: news) → (∀ p ∈ news, p.1 < b) → Q (.ref b) { s with heap := h' }) : wpG (model prog06 w) Γ (PySem.call (.type "bytearray") []) Q E s := by
  refine call_ba hΓ hc hb fun h' hg hk => h _ h' (F.keeps hk) (fun p hp => ?_) fun p hp => Heap.lt_size (N p hp).1
  rcases List.mem_cons.mp hp with rfl | hp
  · exact ⟨hg, (fun e => absurd F.ns.lt (by rw [show L = s.heap.objs.size from e.symm]; exact Nat.lt_irrefl _)), ktu_new F (Nat.le_refl _)⟩
  · exact ⟨hk _ _ (N p hp).1, (N p hp).2⟩
theorem dict_nil {prog : Program} {w : World} {o : Obj} (h : Obj.IsDictOf (PySem.strKind prog w) o []) : ∃ n, o = ⟨.type "dict", none, .dict #[] n, #[]⟩ := by
  obtain ⟨es, ep, ⟨h1, h2, h3⟩, hd, _, hp, _⟩ := h
  have he : es = #[] := by
    cases hl : es.toList with
    | nil => exact Array.toList_eq_nil_iff.mp hl
    | cons x xs => rw [hl] at hp; cases hp
  subst he
  obtain ⟨c, d, da, sl⟩ := o
  dsimp only at h1 h2 h3 hd
  subst h1 h2 h3 hd
  exact ⟨ep, rfl⟩
abbrev coreArr (t1 t2 t3 t4 : Tok) (tp ls dc ba : Addr) : Array Value := #[.none, .bytes #[] t1, .ref tp, .int 0 t2, .ref ls, .bool false, .ref dc, .ref ba, .str (Str.ofString "") t3, .str (Str.ofString "a b") t4]
abbrev coreLed (t1 t2 t3 t4 : Tok) (tp ls dc ba ca : Addr) (nd : Nat) : List (Addr × Obj) := [(ca, W.listOf (coreArr t1 t2 t3 t4 tp ls dc ba) 0), (ba, baObj), (dc, ⟨.type "dict", none, .dict #[] nd, #[]⟩), (ls, W.listOf #[] 0), (tp, { cls := .type "tuple", data := .seq #[] })]
def coresS : Stmt := nthS lawB 0
set_option maxRecDepth 100000 in
set_option maxHeartbeats 3000000 in
theorem cores_stmt {w : World} {mean : ExcName → Option Value} {mg mb : Str → Option Value} {a : Addr} {ccd : Value} {base h₀ : Heap} {L : Addr} {m : Str → Option Value} {s : Shared} {Γ : Ctx} {p3 : Pos} {Q : Flow → Shared → Prop} {body : List Stmt}
    (hΓ : Γ.In (callerA.deeper (lawE L a ccd))) (hc : Γ.code = .func body (lawE L a ccd)) (hb : Γ.below = [(.builtin "claim.caller" {}, p3)])
    (B : Below callerA base [] h₀) (F : Fr h₀ L s.heap m) (X : (hd06.heap_39 w.params).In h₀) (N : News h₀ L s.heap []) (T : Top hd06.view_39 (looseW hd06.view_39 []) mean mg mb h₀)
    (fin : ∀ t1 t2 t3 t4 tp ls dc ba ca nd h' tk', Fr h₀ L h' (fun y => if y = Str.ofString "cores" then some (.ref ca) else m y) → News h₀ L h' (coreLed t1 t2 t3 t4 tp ls dc ba ca nd) → (@LT.lt Nat _ tp ls ∧ @LT.lt Nat _ ls dc ∧ @LT.lt Nat _ dc ba ∧ @LT.lt Nat _ ba ca) → dc ≠ sysModules → Q .next { s with heap := h', toks := tk' }) :
    wpG (model prog06 w) Γ (exec coresS (lawE L a ccd)) Q E0 s := by
  have hfill : PySem.Challenge.rw_dm0148_06.about = PySem.Challenge.rw_dm0148_06.about ∧ hd06.heap_39 = hd06.heap_39 := by k_fill; exact ⟨rfl, rfl⟩
  clear hfill
  conv in (exec _ _) => arg 1; whnf
  have key := fun x px pos lp elts hs hw h => @wpG_assign_list (model prog06 w) (callerA.deeper (lawE L a ccd)) E0 s Γ (lawE L a ccd) x px pos lp elts Q hΓ h hs hw
  refine key _ _ _ _ _ ?_ ?_ ?_
  · kernel_rfl
  · kernel_rfl
  clear key
  refine wpG_el ?_ ?_
  rotate_left
  kernel_rfl
  refine wpG_any hΓ ?_
  w_strict (k_steps)
  refine wpG_el ?_ ?_
  rotate_left
  kernel_rfl
  refine wpG_any hΓ ?_
  w_strict (k_steps)
  refine wpG_el ?_ ?_
  rotate_left
  kernel_rfl
  refine wpG_any hΓ ?_
  w_strict (k_steps)
  refine wpG_el ?_ ?_
  rotate_left
  kernel_rfl
  refine wpG_any hΓ ?_
  w_strict (k_steps)
  refine wpG_el ?_ ?_
  rotate_left
  kernel_rfl
  refine wpG_any hΓ ?_
  w_strict (k_steps)
  refine wpG_el ?_ ?_
  rotate_left
  kernel_rfl
  refine wpG_any hΓ ?_
  w_strict (k_steps)
  refine wpG_el ?_ ?_
  rotate_left
  kernel_rfl
  refine wpG_any hΓ ?_
  w_strict (k_steps)
  refine wpG_el ?_ ?_
  rotate_left
  kernel_rfl
  refine wpG_call_type0 (T := "bytearray") hΓ ?_
  refine wpG_any hΓ ?_
  w_strict (k_steps)
  (rename News h₀ L _ _ => kN); (rename Fr h₀ L _ _ => kF')
  refine call_ba_N (by assumption) kN hΓ hc hb fun b h' F' N' lb => ?_
  clear kN
  k_lt lb
  refine wpG_el ?_ ?_
  rotate_left
  kernel_rfl
  refine wpG_any hΓ ?_
  w_strict (k_steps)
  refine wpG_el ?_ ?_
  rotate_left
  kernel_rfl
  refine wpG_any hΓ ?_
  w_strict (k_steps)
  refine wpG_spliced_nil ?_
  refine wpG_any hΓ ?_
  w_strict (k_steps)
  (rename Obj.IsDictOf (PySem.strKind _ _) _ _ => hd)
  (rename (_ == sysModules) = false => hsys)
  obtain ⟨nd, rfl⟩ := dict_nil hd
  exact fin _ _ _ _ _ _ _ _ _ nd _ _ (by assumption) (by assumption) (by omega) (beq_eq_false_iff_ne.mp hsys)
end Mine
end

-- S2
section
open PySem PySem.W PyProof.Rows PySem.Calls
set_option linter.unusedVariables false
namespace Mine
abbrev plainsL (p0 p1 p2 p3 p4 p5 p6 p7 p8 p9 : Tok) : Array Value := #[.str (Str.ofString "None") p0, .str (Str.ofString "b''") p1, .str (Str.ofString "()") p2, .str (Str.ofString "0") p3, .str (Str.ofString "[]") p4, .str (Str.ofString "False") p5, .str (Str.ofString "{}") p6, .str (Str.ofString "bytearray(b'')") p7, .str (Str.ofString "") p8, .str (Str.ofString "a b") p9]
def preB : List Stmt := [nthS lawB 1, nthS lawB 2, nthS lawB 3]
set_option maxRecDepth 100000 in
set_option maxHeartbeats 3000000 in
theorem pre_stmts {w : World} {mean : ExcName → Option Value} {mg mb : Str → Option Value} {a : Addr} {ccd : Value} {base h₀ : Heap} {L : Addr} {m : Str → Option Value} {s : Shared} {Q : Flow → Shared → Prop} {sa : Addr} {vs : List Value} {ns : List Int} {t1 t2 t3 t4 : Tok} {tp ls dc ba ca : Addr} {nd : Nat}
    (B : Below callerA base [] h₀) (F : Fr h₀ L s.heap (fun y => if y = Str.ofString "script" then some (.ref sa) else m y)) (X : (hd06.heap_39 w.params).In h₀) (N : News h₀ L s.heap (coreLed t1 t2 t3 t4 tp ls dc ba ca nd)) (T : Top hd06.view_39 (looseW hd06.view_39 []) mean mg mb h₀)
    (hL : h₀.IsList sa vs.toArray) (hI : IntsAre vs ns) (hlen : ¬ (63 : Int) < ns.length) (ho : @LT.lt Nat _ tp ls ∧ @LT.lt Nat _ ls dc ∧ @LT.lt Nat _ dc ba ∧ @LT.lt Nat _ ba ca)
    (fin : ∀ na pa q0 q1 q2 q3 p0 p1 p2 p3 p4 p5 p6 p7 p8 p9 tt h' tk', Fr h₀ L h' (fun y => if y = Str.ofString "total" then some (.int ns.sum tt) else if y = Str.ofString "names" then some (.ref na) else if y = Str.ofString "plains" then some (.ref pa) else if y = Str.ofString "script" then some (.ref sa) else m y) →
      News h₀ L h' ((na, W.listOf (namesL q0 q1 q2 q3) 0) :: (pa, W.listOf (plainsL p0 p1 p2 p3 p4 p5 p6 p7 p8 p9) 0) :: coreLed t1 t2 t3 t4 tp ls dc ba ca nd) → (@LT.lt Nat _ ca pa ∧ @LT.lt Nat _ pa na) → Q .next { s with heap := h', toks := tk' }) :
    wpAny (model prog06 w) (callerA.deeper (lawE L a ccd)) (execs preB (lawE L a ccd)) Q E0 s := by
  have hfill : PySem.Challenge.rw_dm0148_06.about = PySem.Challenge.rw_dm0148_06.about ∧ hd06.heap_39 = hd06.heap_39 := by k_fill; exact ⟨rfl, rfl⟩
  clear hfill
  unfold preB
  refine wpAny_execs_cons ?_
  conv in (exec _ _) => arg 1; whnf
  w_strict (k_steps)
  conv in (exec _ _) => arg 1; whnf
  w_strict (k_steps)
  conv in (exec _ _) => arg 1; whnf
  w_strict (k_steps)
  exact fin _ _ _ _ _ _ _ _ _ _ _ _ _ _ _ _ _ _ _ (by assumption) (by assumption) (by omega)
end Mine
end

-- P1
section
open PySem PySem.W PyProof.Rows PySem.Calls
set_option linter.unusedVariables false
namespace Mine
theorem carried_ints : ∀ {l : List Int} {ys : List Value}, CarriedAll ys (l.map fun a => PyData.int (a.fmod 6)) → ∃ ks : List (Int × Tok), ys = valK ks ∧ ks.length = l.length ∧ ∀ k ∈ ks, 0 ≤ k.1 ∧ k.1 < 6
  | [], _, h => by cases h; exact ⟨[], rfl, rfl, fun k hk => nomatch hk⟩
  | a :: l, _, h => by
    cases h with
    | cons h1 h2 =>
      obtain ⟨ks, rfl, e, hk⟩ := carried_ints h2
      cases h1
      rename_i t
      refine ⟨(a.fmod 6, t) :: ks, rfl, by simp [e], fun k hk' => ?_⟩
      rcases List.mem_cons.mp hk' with rfl | hk'
      · exact ⟨Int.fmod_nonneg_of_pos _ (by decide), Int.fmod_lt_of_pos _ (by decide)⟩
      · exact hk k hk'
theorem kinds_local2 {L a : Addr} {ccd : Value} : (lawE L a ccd).kindOf (Str.ofString "kinds") = some .local := by kernel_rfl
def kindsS : Stmt := nthS roundB 0
set_option maxRecDepth 100000 in
set_option maxHeartbeats 3000000 in
theorem kinds_stmt {w : World} {mean : ExcName → Option Value} {mg mb : Str → Option Value} {a : Addr} {ccd : Value} {base h₀ : Heap} {L : Addr} {m : Str → Option Value} {s : Shared} {Q : Flow → Shared → Prop} {sa fa : Addr} {vs : List Value} {ns : List Int} {fv : List (Int × Tok)} {nf : Nat} {tw : List (Addr × Obj)}
    (B : Below callerA base [] h₀) (F : Fr h₀ L s.heap (fun y => if y = Str.ofString "first" then some (.ref fa) else if y = Str.ofString "script" then some (.ref sa) else m y)) (X : (hd06.heap_39 w.params).In h₀) (N : News h₀ L s.heap ((fa, W.listOf (valK fv).toArray nf) :: tw)) (T : Top hd06.view_39 (looseW hd06.view_39 []) mean mg mb h₀)
    (hL : h₀.IsList sa vs.toArray) (hI : IntsAre vs ns) (hlen : ¬ (63 : Int) < ns.length) (hfl : fv.length ≤ 2)
    (fin : ∀ ka ks h' tk', Fr h₀ L h' (fun y => if y = Str.ofString "kinds" then some (.ref ka) else if y = Str.ofString "first" then some (.ref fa) else if y = Str.ofString "script" then some (.ref sa) else m y) → News h₀ L h' ((ka, W.listOf (valK (fv ++ ks)).toArray 0) :: (fa, W.listOf (valK fv).toArray nf) :: tw) →
      (∀ p ∈ (fa, W.listOf (valK fv).toArray nf) :: tw, p.1 < ka) → ks.length ≤ 63 → (∀ k ∈ ks, 0 ≤ k.1 ∧ k.1 < 6) → Q .next { s with heap := h', toks := tk' }) :
    wpAny (model prog06 w) (callerA.deeper (lawE L a ccd)) (exec kindsS (lawE L a ccd)) Q E0 s := by
  have hfill : PySem.Challenge.rw_dm0148_06.about = PySem.Challenge.rw_dm0148_06.about ∧ hd06.heap_39 = hd06.heap_39 := by k_fill; exact ⟨rfl, rfl⟩
  clear hfill
  conv in (exec _ _) => arg 1; whnf
  w_strict (k_steps)
  (rename News h₀ L _ _ => kN); (rename Fr h₀ L _ _ => kF)
  (rename Heap.IsList _ _ _ => kL)
  (rename CarriedAll _ _ => kC)
  have hlen' := kC.length_eq
  refine add_lists (vs := valK fv) kF kN ⟨_, (kN _ (.tail _ (.head _))).1, rfl, nf, rfl⟩ kL (fun h' F' N' => ?_) ?_
  · rw [List.filter_eq_self.mpr (fun _ _ => rfl)] at kC
    obtain ⟨ks, rfl, e, hk⟩ := carried_ints kC
    refine wpAny_storeName_local kinds_local2 F'.ns (fun h2 n2 sb => ?_) law_plain
    have e2 : valK fv ++ valK ks = valK (fv ++ ks) := by simp
    rw [e2] at N'
    refine fin _ ks h2 _ (F'.set n2 sb) (fun p hp => news_set N' sb p ?_) (fun p hp => Heap.lt_size (kN p (.tail _ hp)).1) (by rw [e]; simp; omega) hk
    rcases List.mem_cons.mp hp with rfl | hp
    · exact .head _
    · exact .tail _ (.tail _ hp)
  · have h2 : (valK fv).length = fv.length := by simp
    rw [hlen', h2, List.length_map, sizeLine_eq]
    have h3 := List.length_filter_le (fun _ : Int => true) (List.take 63 ns)
    have h4 : (List.take 63 ns).length ≤ 63 := by simp; omega
    omega
end Mine
end

-- Pd
section
open PySem PySem.W PyProof.Rows PySem.Calls
set_option linter.unusedVariables false
namespace Mine
theorem wpAny_execs_append {M : Model} {A : Around} {env : Env} {Q : Flow → Shared → Prop} {E : Value → Shared → Prop} {ys : List Stmt} : ∀ {xs : List Stmt} {s : Shared} (h : wpAny M A (execs xs env) (fun f s' => match f with | .next => wpAny M A (execs ys env) Q E s' | f => Q f s') E s), wpAny M A (execs (xs ++ ys) env) Q E s := by
  intro xs s h Γ p hΓ
  replace h := h Γ p hΓ
  induction xs generalizing s p with
  | nil =>
    rw [execs_nil] at h
    exact h Γ p hΓ
  | cons x xs ih =>
    rw [List.cons_append, execs_cons, Sem.wp_bind']
    rw [execs_cons, Sem.wp_bind'] at h
    refine Sem.wp_mono M Γ _ (fun f p' s' h' => ?_) (fun _ _ _ h' => h') _ _ h
    cases f <;> first | exact ih p' h' | exact h'
def proB : List Stmt := [nthS roundB 1, nthS roundB 2, nthS roundB 3, nthS roundB 4, nthS roundB 5]
theorem roundB_eq : roundB = kindsS :: (proB ++ [kindFor, showIf, checkFor]) := by with_unfolding_all rfl
def plainT : Nat → Str
  | 0 => Str.ofString "None" | 1 => Str.ofString "b''" | 2 => Str.ofString "()" | 3 => Str.ofString "0" | 4 => Str.ofString "[]" | 5 => Str.ofString "False" | 6 => Str.ofString "{}" | 7 => Str.ofString "bytearray(b'')" | 8 => Str.ofString "" | _ => Str.ofString "a b"
def nameT : Nat → Str
  | 0 => Str.ofString "None" | 1 => Str.ofString "b''" | 2 => Str.ofString "()" | 3 => Str.ofString "0" | 4 => Str.ofString "[]" | 5 => Str.ofString "False" | 6 => Str.ofString "{}" | 7 => Str.ofString "bytearray(b'')" | 8 => Str.ofString "''" | _ => Str.ofString "'a b'"
def quoteT : Nat → Str
  | 0 => Str.ofString "'None'" | 1 => Str.ofString "\"b''\"" | 2 => Str.ofString "'()'" | 3 => Str.ofString "'0'" | 4 => Str.ofString "'[]'" | 5 => Str.ofString "'False'" | 6 => Str.ofString "'{}'" | 7 => Str.ofString "\"bytearray(b'')\"" | 8 => Str.ofString "\"''\"" | _ => Str.ofString "'a b'"
def coreAt (t1 t2 t3 t4 : Tok) (tp ls dc ba : Addr) : Nat → Value
  | 0 => .none | 1 => .bytes #[] t1 | 2 => .ref tp | 3 => .int 0 t2 | 4 => .ref ls | 5 => .bool false | 6 => .ref dc | 7 => .ref ba | 8 => .str (Str.ofString "") t3 | _ => .str (Str.ofString "a b") t4
def FP (m m' : Str → Option Value) : Prop := ∀ y, y ≠ Str.ofString "words" → y ≠ Str.ofString "name" → y ≠ Str.ofString "due" → y ≠ Str.ofString "things" → m' y = m y
abbrev mapP (m : Str → Option Value) (p : Int) (pt : Tok) (fa pa ca : Addr) : Str → Option Value := fun y => if y = Str.ofString "pick" then some (.int p pt) else if y = Str.ofString "first" then some (.ref fa) else if y = Str.ofString "plains" then some (.ref pa) else if y = Str.ofString "cores" then some (.ref ca) else m y
theorem mapP_eq {m : Str → Option Value} {p : Int} {pt : Tok} {fa pa ca : Addr} (h1 : m (Str.ofString "pick") = some (.int p pt)) (h2 : m (Str.ofString "first") = some (.ref fa)) (h3 : m (Str.ofString "plains") = some (.ref pa)) (h4 : m (Str.ofString "cores") = some (.ref ca)) : m = mapP m p pt fa pa ca := by
  refine funext fun y => ?_
  unfold mapP
  by_cases c1 : y = Str.ofString "pick"
  · subst c1; exact h1
  · rw [if_neg c1]
    by_cases c2 : y = Str.ofString "first"
    · subst c2; exact h2
    · rw [if_neg c2]
      by_cases c3 : y = Str.ofString "plains"
      · subst c3; exact h3
      · rw [if_neg c3]
        by_cases c4 : y = Str.ofString "cores"
        · subst c4; exact h4
        · rw [if_neg c4]
end Mine
end

-- Facts
section
open PySem PySem.W PyProof.Rows PySem.Spec PySem.Calls
set_option linter.unusedVariables false
namespace Mine
/-- what is known of a core, taken as it is -/
structure CoreI (h₀ : Heap) (tw : List (Addr × Obj)) (core : Value) (nm wd : Str) : Prop where
  v : CoreV h₀ tw core nm wd
  ty : ∃ Ty : String, (On h₀ tw fun h => TypC h core Ty) ∧ (Value.type Ty == Value.type "builtin_function_or_method") = false
  ne : On h₀ tw fun h => NeC h core core
  hh : handedIn core = true
  len : nm.length ≤ 100
theorem coreV_val {h₀ : Heap} {tw : List (Addr × Obj)} {core : Value} {nm wd : Str} (R : ∀ h, RepU [] h 2 core nm) (S : ∀ h, (∃ u, core = .str wd u) ∨ ((∀ a b, core ≠ .str a b) ∧ StrC [] h 3 core wd)) : CoreV h₀ tw core nm wd :=
  ⟨[], (fun a h => nomatch h), fun h _ _ => ⟨R h, S h⟩⟩
theorem coreV_ref {h₀ : Heap} {tw : List (Addr × Obj)} {a : Addr} {o : Obj} {nm wd : Str} (ho : (a, o) ∈ tw) (R : ∀ h : Heap, h.get? a = some o → RepU [a] h 2 (.ref a) nm) (S : ∀ h : Heap, h.get? a = some o → StrC [a] h 3 (.ref a) wd) : CoreV h₀ tw (.ref a) nm wd :=
  ⟨[a], (fun b h => ⟨o, by rw [List.mem_singleton.mp h]; exact ho⟩), fun h _ hs => ⟨R h (hs _ ho), .inr ⟨(fun _ _ e => nomatch e), S h (hs _ ho)⟩⟩⟩
theorem kp_refl (h : Heap) : Kp h h := fun _ _ e => e
section
variable {h₀ : Heap} {tw : List (Addr × Obj)} {t1 t2 t3 t4 : Tok} {tp ls dc ba ca : Addr} {nd : Nat}
theorem core_text {x nm : Str} {t : Tok} (e : reprText x = nm) (hl : nm.length ≤ 100) : CoreI h₀ tw (.str x t) nm x := by
  have hs : nm.length ≤ sizeLine := by rw [sizeLine_eq]; omega
  refine ⟨coreV_val (fun h => repU_leaf (fun a e => nomatch e) ?_) (fun h => .inl ⟨_, rfl⟩), ⟨"str", fun h _ _ s k => typeIs_str s _ _, by decide⟩, fun h _ _ => ne_text, rfl, hl⟩
  have := @rep_text [] h 2 x t (by rw [e]; exact hs)
  rwa [e] at this
theorem core_info {p : Nat} (hp : p ≤ 9) (hsub : ∀ q ∈ coreLed t1 t2 t3 t4 tp ls dc ba ca nd, q ∈ tw) (hd : dc ≠ sysModules) : CoreI h₀ tw (coreAt t1 t2 t3 t4 tp ls dc ba p) (nameT p) (plainT p) := by
  have iba := hsub _ (.tail _ (.head _))
  have idc := hsub _ (.tail _ (.tail _ (.head _)))
  have ils := hsub _ (.tail _ (.tail _ (.tail _ (.head _))))
  have itp := hsub _ (.tail _ (.tail _ (.tail _ (.tail _ (.head _)))))
  have hc : p = 0 ∨ p = 1 ∨ p = 2 ∨ p = 3 ∨ p = 4 ∨ p = 5 ∨ p = 6 ∨ p = 7 ∨ p = 8 ∨ p = 9 := by omega
  rcases hc with rfl | rfl | rfl | rfl | rfl | rfl | rfl | rfl | rfl | rfl
  · exact ⟨coreV_val (fun h => repU_leaf (fun a e => nomatch e) rep_none) (fun h => .inr ⟨(fun _ _ e => nomatch e), str_none⟩), ⟨"NoneType", fun h _ _ s k => typeIs_none s, by decide⟩, fun h _ _ => ne_none, rfl, by decide⟩
  · exact ⟨coreV_val (fun h => repU_leaf (fun a e => nomatch e) rep_bytes) (fun h => .inr ⟨(fun _ _ e => nomatch e), str_bytes⟩), ⟨"bytes", fun h _ _ s k => typeIs_bytes s _ _, by decide⟩, fun h _ _ => ne_bytes0, rfl, by decide⟩
  · exact ⟨coreV_ref itp (fun h e => (repU_tuple0 e).keeps (kp_refl h) (fun _ z => z) (by decide)) (fun h e => (str_tuple0 e).keeps (kp_refl h) (fun _ z => z) (by decide)), ⟨"tuple", fun h _ hs s k => ⟨_, k _ _ (hs _ itp), rfl⟩, by decide⟩, fun h _ hs => ne_tuple0 (hs _ itp), rfl, by decide⟩
  · exact ⟨coreV_val (fun h => repU_leaf (fun a e => nomatch e) rep_zero) (fun h => .inr ⟨(fun _ _ e => nomatch e), str_zero⟩), ⟨"int", fun h _ _ s k => typeIs_int s _ _, by decide⟩, fun h _ _ => ne_zero, rfl, by decide⟩
  · exact ⟨coreV_ref ils (fun h e => (repU_list0 e).keeps (kp_refl h) (fun _ z => z) (by decide)) (fun h e => (str_list0 e).keeps (kp_refl h) (fun _ z => z) (by decide)), ⟨"list", fun h _ hs s k => ⟨_, k _ _ (hs _ ils), rfl⟩, by decide⟩, fun h _ hs => ne_list0 (hs _ ils), rfl, by decide⟩
  · exact ⟨coreV_val (fun h => repU_leaf (fun a e => nomatch e) rep_false) (fun h => .inr ⟨(fun _ _ e => nomatch e), str_false⟩), ⟨"bool", fun h _ _ s k => PySem.typeIs_bool s _, by decide⟩, fun h _ _ => ne_false, rfl, by decide⟩
  · exact ⟨coreV_ref idc (fun h e => (repU_dict0 e hd).keeps (kp_refl h) (fun _ z => z) (by decide)) (fun h e => (str_dict0 e hd).keeps (kp_refl h) (fun _ z => z) (by decide)), ⟨"dict", fun h _ hs s k => ⟨_, k _ _ (hs _ idc), rfl⟩, by decide⟩, fun h _ hs => ne_dict0 (hs _ idc) hd, rfl, by decide⟩
  · exact ⟨coreV_ref iba (fun h e => repU_ba e) (fun h e => str_ba e), ⟨"bytearray", fun h _ hs s k => ⟨_, k _ _ (hs _ iba), rfl⟩, by decide⟩, fun h _ hs => ne_ba (hs _ iba), rfl, by decide⟩
  · exact core_text (by decide +kernel) (by decide)
  · exact core_text (by decide +kernel) (by decide)
theorem core_quote {p : Nat} (hp : p < 9) : reprText (nameT p) = quoteT p ∧ (quoteT p).length ≤ 100 := by
  have hc : p = 0 ∨ p = 1 ∨ p = 2 ∨ p = 3 ∨ p = 4 ∨ p = 5 ∨ p = 6 ∨ p = 7 ∨ p = 8 := by omega
  rcases hc with rfl | rfl | rfl | rfl | rfl | rfl | rfl | rfl | rfl <;> exact ⟨by decide +kernel, by decide +kernel⟩
theorem core_empty {p : Nat} (hp : p < 9) (hsub : ∀ q ∈ coreLed t1 t2 t3 t4 tp ls dc ba ca nd, q ∈ tw) (hd : dc ≠ sysModules) :
    (On h₀ tw fun h => Truth h (coreAt t1 t2 t3 t4 tp ls dc ba p) false) ∧ ∃ as, On h₀ tw fun h => Rep as h 1 (coreAt t1 t2 t3 t4 tp ls dc ba p) (nameT p) := by
  have iba := hsub _ (.tail _ (.head _))
  have idc := hsub _ (.tail _ (.tail _ (.head _)))
  have ils := hsub _ (.tail _ (.tail _ (.tail _ (.head _))))
  have itp := hsub _ (.tail _ (.tail _ (.tail _ (.tail _ (.head _)))))
  have hc : p = 0 ∨ p = 1 ∨ p = 2 ∨ p = 3 ∨ p = 4 ∨ p = 5 ∨ p = 6 ∨ p = 7 ∨ p = 8 := by omega
  rcases hc with rfl | rfl | rfl | rfl | rfl | rfl | rfl | rfl | rfl
  · exact ⟨fun h _ _ => truth_none, [], fun h _ _ => rep_none⟩
  · exact ⟨fun h _ _ => truth_bytes, [], fun h _ _ => rep_bytes⟩
  · exact ⟨fun h _ hs => truth_tuple0 (hs _ itp), [tp], fun h _ hs => rep_tuple0 (hs _ itp)⟩
  · exact ⟨fun h _ _ => truth_zero, [], fun h _ _ => rep_zero⟩
  · exact ⟨fun h _ hs => truth_list0 (hs _ ils), [ls], fun h _ hs => rep_list0 (hs _ ils)⟩
  · exact ⟨fun h _ _ => truth_false, [], fun h _ _ => rep_false⟩
  · exact ⟨fun h _ hs => truth_dict0 (hs _ idc) hd, [dc], fun h _ hs => rep_dict0 (hs _ idc) hd⟩
  · exact ⟨fun h _ hs => truth_ba (hs _ iba), [], fun h _ hs => rep_ba (hs _ iba)⟩
  · refine ⟨fun h _ _ => truth_str0, [], fun h _ _ => ?_⟩
    have := @rep_text [] h 1 (Str.ofString "") t3 (by decide +kernel)
    rwa [show reprText (Str.ofString "") = Str.ofString "''" by decide +kernel] at this
end
end Mine
end

-- P2
section
open PySem PySem.W PyProof.Rows PySem.Calls
set_option linter.unusedVariables false
namespace Mine
theorem in_yes {prog : Program} {w : World} {A : Around} {E : Value → Shared → Prop} {s : Shared} {x y : Str} {t u : Tok} {Q : Value → Shared → Prop} (h : (Builtin.Str.occurrences y x 0 y.length 1).isEmpty = false) (hQ : Q (.bool true) s) : wpAny (model prog w) A (compareOp .In (.str x t) (.str y u)) Q E s :=
  in_str (by rw [h]; exact hQ)
theorem in_no {prog : Program} {w : World} {A : Around} {E : Value → Shared → Prop} {s : Shared} {x y : Str} {t u : Tok} {Q : Value → Shared → Prop} (h : (Builtin.Str.occurrences y x 0 y.length 1).isEmpty = true) (hQ : Q (.bool false) s) : wpAny (model prog w) A (compareOp .In (.str x t) (.str y u)) Q E s :=
  in_str (by rw [h]; exact hQ)
local macro_rules | `(tactic| walk_at "compareOp In str str") => `(tactic| (k_here; first | refine in_yes (by decide +kernel) ?_ | refine in_no (by decide +kernel) ?_))
set_option maxRecDepth 100000 in
set_option maxHeartbeats 8000000 in
theorem pro0 {w : World} {mean : ExcName → Option Value} {mg mb : Str → Option Value} {a : Addr} {ccd : Value} {base h₀ : Heap} {L : Addr} {m : Str → Option Value} {s : Shared} {Q : Flow → Shared → Prop} {fa pa ca : Addr} {f0 f1 pt : Tok} {tw : List (Addr × Obj)} {p0 p1 p2 p3 p4 p5 p6 p7 p8 p9 t1 t2 t3 t4 : Tok} {tp ls dc ba : Addr} {nf : Nat} {p : Nat}
    (B : Below callerA base [] h₀) (F : Fr h₀ L s.heap (mapP m p pt fa pa ca)) (X : (hd06.heap_39 w.params).In h₀)
    (N : News h₀ L s.heap ((fa, W.listOf #[.int 0 f0] nf) :: (pa, W.listOf (plainsL p0 p1 p2 p3 p4 p5 p6 p7 p8 p9) 0) :: (ca, W.listOf (coreArr t1 t2 t3 t4 tp ls dc ba) 0) :: tw)) (T : Top hd06.view_39 (looseW hd06.view_39 []) mean mg mb h₀) (hp : p ≤ 9)
    (fin : ∀ ta h' tk' m', Fr h₀ L h' m' → FP (mapP m p pt fa pa ca) m' → m' (Str.ofString "things") = some (.ref ta) → (p < 9 → ∃ u1 u2, m' (Str.ofString "due") = some (.str (nameT p) u1) ∧ m' (Str.ofString "words") = some (.str (nameT p) u1) ∧ m' (Str.ofString "name") = some (.str (quoteT p) u2)) → (p = 9 → ∃ u1 u2, m' (Str.ofString "due") = some (.str (Str.ofString "a b") t4) ∧ m' (Str.ofString "words") = some (.str (plainT p) u1) ∧ m' (Str.ofString "name") = some (.str (nameT p) u2)) →
      News h₀ L h' ((ta, W.listOf #[coreAt t1 t2 t3 t4 tp ls dc ba p] 0) :: (fa, W.listOf #[.int 0 f0] nf) :: (pa, W.listOf (plainsL p0 p1 p2 p3 p4 p5 p6 p7 p8 p9) 0) :: (ca, W.listOf (coreArr t1 t2 t3 t4 tp ls dc ba) 0) :: tw) → (@LT.lt Nat _ fa ta ∧ @LT.lt Nat _ pa ta ∧ @LT.lt Nat _ ca ta ∧ AllLt ta tw) → Q .next { s with heap := h', toks := tk' }) :
    wpAny (model prog06 w) (callerA.deeper (lawE L a ccd)) (execs proB (lawE L a ccd)) Q E0 s := by
  have hfill : PySem.Challenge.rw_dm0148_06.about = PySem.Challenge.rw_dm0148_06.about ∧ hd06.heap_39 = hd06.heap_39 := by k_fill; exact ⟨rfl, rfl⟩
  clear hfill
  unfold proB
  have hc : p = 0 ∨ p = 1 ∨ p = 2 ∨ p = 3 ∨ p = 4 ∨ p = 5 ∨ p = 6 ∨ p = 7 ∨ p = 8 ∨ p = 9 := by omega
  rcases hc with rfl | rfl | rfl | rfl | rfl | rfl | rfl | rfl | rfl | rfl
  all_goals (
    refine wpAny_execs_cons ?_
    (conv in (exec _ _) => arg 1; whnf)
    w_strict (k_steps)
    (conv in (exec _ _) => arg 1; whnf)
    w_strict (k_steps)
    (conv in (exec _ _) => arg 1; whnf)
    w_strict (k_steps)
    (conv in (exec _ _) => arg 1; whnf)
    w_strict (k_steps)
    (conv in (exec _ _) => arg 1; whnf)
    w_strict (k_steps))
  all_goals (
    rename Fr h₀ L _ _ => kF
    rename News h₀ L _ _ => kN
    rename _ ∧ _ ∧ _ ∧ _ ∧ AllLt _ tw => kl
    refine fin _ _ _ _ kF (fun y c1 c2 c3 c4 => by simp only [if_neg c1, if_neg c2, if_neg c3, if_neg c4]) (by rfl) ?_ ?_ (fun q hq => kN q ?_) kl.2
    · first | exact fun _ => ⟨_, _, rfl, rfl, rfl⟩ | exact fun h => absurd h (by decide)
    · first | exact fun h => absurd h (by decide) | exact fun _ => ⟨_, _, rfl, rfl, rfl⟩
    · rcases List.mem_cons.mp hq with rfl | hq
      · exact .head _
      · exact .tail _ (.tail _ hq))
end Mine
end

-- P3
section
open PySem PySem.W PyProof.Rows PySem.Calls
set_option linter.unusedVariables false
namespace Mine
local macro_rules | `(tactic| walk_at "compareOp In str str") => `(tactic| (k_here; first | refine in_yes (by decide +kernel) ?_ | refine in_no (by decide +kernel) ?_))
set_option maxRecDepth 100000 in
set_option maxHeartbeats 8000000 in
theorem pro2 {w : World} {mean : ExcName → Option Value} {mg mb : Str → Option Value} {a : Addr} {ccd : Value} {base h₀ : Heap} {L : Addr} {m : Str → Option Value} {s : Shared} {Q : Flow → Shared → Prop} {fa pa ca : Addr} {f0 f1 pt : Tok} {tw : List (Addr × Obj)} {p0 p1 p2 p3 p4 p5 p6 p7 p8 p9 t1 t2 t3 t4 : Tok} {tp ls dc ba : Addr} {nf : Nat} {p : Nat}
    (B : Below callerA base [] h₀) (F : Fr h₀ L s.heap (mapP m p pt fa pa ca)) (X : (hd06.heap_39 w.params).In h₀)
    (N : News h₀ L s.heap ((fa, W.listOf #[.int 2 f0, .int 0 f1] nf) :: (pa, W.listOf (plainsL p0 p1 p2 p3 p4 p5 p6 p7 p8 p9) 0) :: (ca, W.listOf (coreArr t1 t2 t3 t4 tp ls dc ba) 0) :: tw)) (T : Top hd06.view_39 (looseW hd06.view_39 []) mean mg mb h₀) (hp : p ≤ 9)
    (fin : ∀ ta h' tk' m', Fr h₀ L h' m' → FP (mapP m p pt fa pa ca) m' → m' (Str.ofString "things") = some (.ref ta) → (∃ u1 u2, m' (Str.ofString "due") = some (coreAt t1 t2 t3 t4 tp ls dc ba p) ∧ m' (Str.ofString "words") = some (.str (plainT p) u1) ∧ m' (Str.ofString "name") = some (.str (nameT p) u2)) →
      News h₀ L h' ((ta, W.listOf #[coreAt t1 t2 t3 t4 tp ls dc ba p] 0) :: (fa, W.listOf #[.int 2 f0, .int 0 f1] nf) :: (pa, W.listOf (plainsL p0 p1 p2 p3 p4 p5 p6 p7 p8 p9) 0) :: (ca, W.listOf (coreArr t1 t2 t3 t4 tp ls dc ba) 0) :: tw) → (@LT.lt Nat _ fa ta ∧ @LT.lt Nat _ pa ta ∧ @LT.lt Nat _ ca ta ∧ AllLt ta tw) → Q .next { s with heap := h', toks := tk' }) :
    wpAny (model prog06 w) (callerA.deeper (lawE L a ccd)) (execs proB (lawE L a ccd)) Q E0 s := by
  have hfill : PySem.Challenge.rw_dm0148_06.about = PySem.Challenge.rw_dm0148_06.about ∧ hd06.heap_39 = hd06.heap_39 := by k_fill; exact ⟨rfl, rfl⟩
  clear hfill
  unfold proB
  have hc : p = 0 ∨ p = 1 ∨ p = 2 ∨ p = 3 ∨ p = 4 ∨ p = 5 ∨ p = 6 ∨ p = 7 ∨ p = 8 ∨ p = 9 := by omega
  rcases hc with rfl | rfl | rfl | rfl | rfl | rfl | rfl | rfl | rfl | rfl
  all_goals (
    refine wpAny_execs_cons ?_
    (conv in (exec _ _) => arg 1; whnf)
    w_strict (k_steps)
    (conv in (exec _ _) => arg 1; whnf)
    w_strict (k_steps)
    (conv in (exec _ _) => arg 1; whnf)
    w_strict (k_steps)
    (conv in (exec _ _) => arg 1; whnf)
    w_strict (k_steps)
    (conv in (exec _ _) => arg 1; whnf)
    w_strict (k_steps))
  all_goals (
    rename Fr h₀ L _ _ => kF
    rename News h₀ L _ _ => kN
    rename _ ∧ _ ∧ _ ∧ _ ∧ AllLt _ tw => kl
    refine fin _ _ _ _ kF (fun y c1 c2 c3 c4 => by simp only [if_neg c1, if_neg c2, if_neg c3, if_neg c4]) (by rfl) ⟨_, _, rfl, rfl, rfl⟩ (fun q hq => kN q ?_) kl.2
    · rcases List.mem_cons.mp hq with rfl | hq
      · exact .head _
      · exact .tail _ (.tail _ hq))
end Mine
end

-- Round
section
open PySem PySem.W PyProof.Rows PySem.Spec PySem.Calls
set_option linter.unusedVariables false
namespace Mine
structure Fac (m : Str → Option Value) (sa pa na ca : Addr) : Prop where
  script : m (Str.ofString "script") = some (.ref sa)
  plains : m (Str.ofString "plains") = some (.ref pa)
  names : m (Str.ofString "names") = some (.ref na)
  cores : m (Str.ofString "cores") = some (.ref ca)
structure Led (tw : List (Addr × Obj)) (na pa : Addr) (q0 q1 q2 q3 p0 p1 p2 p3 p4 p5 p6 p7 p8 p9 t1 t2 t3 t4 : Tok) (tp ls dc ba ca : Addr) (nd : Nat) : Prop where
  na : (na, W.listOf (namesL q0 q1 q2 q3) 0) ∈ tw
  pa : (pa, W.listOf (plainsL p0 p1 p2 p3 p4 p5 p6 p7 p8 p9) 0) ∈ tw
  co : ∀ q ∈ coreLed t1 t2 t3 t4 tp ls dc ba ca nd, q ∈ tw
  sm : dc ≠ sysModules
def RR (m m' : Str → Option Value) : Prop := ∀ y, y ≠ Str.ofString "kinds" → y ≠ Str.ofString "words" → y ≠ Str.ofString "name" → y ≠ Str.ofString "due" → y ≠ Str.ofString "things" → y ≠ Str.ofString "kind" → y ≠ Str.ofString "k" → y ≠ Str.ofString "err" → y ≠ Str.ofString "below" → m' y = m y
theorem RR.fac {m m' : Str → Option Value} {sa pa na ca : Addr} (R : RR m m') (H : Fac m sa pa na ca) : Fac m' sa pa na ca :=
  ⟨(R _ (by decide) (by decide) (by decide) (by decide) (by decide) (by decide) (by decide) (by decide) (by decide)).trans H.script, (R _ (by decide) (by decide) (by decide) (by decide) (by decide) (by decide) (by decide) (by decide) (by decide)).trans H.plains,
   (R _ (by decide) (by decide) (by decide) (by decide) (by decide) (by decide) (by decide) (by decide) (by decide)).trans H.names, (R _ (by decide) (by decide) (by decide) (by decide) (by decide) (by decide) (by decide) (by decide) (by decide)).trans H.cores⟩
theorem RR.pick {m m' : Str → Option Value} (R : RR m m') : m' (Str.ofString "pick") = m (Str.ofString "pick") := R _ (by decide) (by decide) (by decide) (by decide) (by decide) (by decide) (by decide) (by decide) (by decide)
theorem mapF_eq {m : Str → Option Value} {fa sa : Addr} (h1 : m (Str.ofString "first") = some (.ref fa)) (h2 : m (Str.ofString "script") = some (.ref sa)) : m = fun y => if y = Str.ofString "first" then some (.ref fa) else if y = Str.ofString "script" then some (.ref sa) else m y := by
  refine funext fun y => ?_
  by_cases c1 : y = Str.ofString "first"
  · subst c1; exact h1
  · rw [if_neg c1]
    by_cases c2 : y = Str.ofString "script"
    · subst c2; exact h2
    · rw [if_neg c2]
theorem Led.sub {tw tw' : List (Addr × Obj)} {na pa : Addr} {q0 q1 q2 q3 p0 p1 p2 p3 p4 p5 p6 p7 p8 p9 t1 t2 t3 t4 : Tok} {tp ls dc ba ca : Addr} {nd : Nat} (H : Led tw na pa q0 q1 q2 q3 p0 p1 p2 p3 p4 p5 p6 p7 p8 p9 t1 t2 t3 t4 tp ls dc ba ca nd) (h : ∀ q ∈ tw, q ∈ tw') : Led tw' na pa q0 q1 q2 q3 p0 p1 p2 p3 p4 p5 p6 p7 p8 p9 t1 t2 t3 t4 tp ls dc ba ca nd :=
  ⟨h _ H.na, h _ H.pa, fun q hq => h q (H.co q hq), H.sm⟩
section
variable {w : World} {mean : ExcName → Option Value} {mg mb : Str → Option Value} {a : Addr} {ccd : Value} {base h₀ : Heap} {L : Addr} {s : Shared} {Q : Flow → Shared → Prop} {m : Str → Option Value} {sa na pa fa : Addr} {vs : List Value} {ns : List Int} {tw : List (Addr × Obj)} {q0 q1 q2 q3 p0 p1 p2 p3 p4 p5 p6 p7 p8 p9 t1 t2 t3 t4 f0 f1 pt : Tok} {tp ls dc ba ca : Addr} {nd nf p : Nat}
theorem round0 (B : Below callerA base [] h₀) (X : (hd06.heap_39 w.params).In h₀) (T : Top hd06.view_39 (looseW hd06.view_39 []) mean mg mb h₀)
    (hL : h₀.IsList sa vs.toArray) (hI : IntsAre vs ns) (hlen : ¬ (63 : Int) < ns.length)
    (F : Fr h₀ L s.heap m) (N : News h₀ L s.heap tw) (G : Fac m sa pa na ca) (D : Led tw na pa q0 q1 q2 q3 p0 p1 p2 p3 p4 p5 p6 p7 p8 p9 t1 t2 t3 t4 tp ls dc ba ca nd) (hp : p ≤ 9) (hpk : m (Str.ofString "pick") = some (.int (p : Int) pt)) (hf : m (Str.ofString "first") = some (.ref fa)) (hfa : (fa, W.listOf #[.int 0 f0] nf) ∈ tw)
    (fin : ∀ m' h tk, RR m m' → Fr h₀ L h m' → News h₀ L h tw → Q .next { s with heap := h, toks := tk }) :
    wpAny (model prog06 w) (callerA.deeper (lawE L a ccd)) (execs roundB (lawE L a ccd)) Q E0 s := by
  rw [roundB_eq]
  have e1 := mapF_eq hf G.script
  refine wpAny_execs_cons (kinds_stmt (fv := [(0, f0)]) (nf := nf) (m := m) (tw := tw) B (e1 ▸ F) X (fun q hq => ?_) T hL hI hlen (by simp) fun ka ks h1 tk1 F1 N1 hlt hks hk6 => ?_)
  · rcases List.mem_cons.mp hq with rfl | hq
    · exact N _ hfa
    · exact N q hq
  have F1 : Fr h₀ L h1 (fun y => if y = Str.ofString "kinds" then some (Value.ref ka) else m y) := by
    have z : (fun y => if y = Str.ofString "kinds" then some (Value.ref ka) else m y) = _ := funext fun y => congrArg (fun z => if y = Str.ofString "kinds" then some (Value.ref ka) else z) (congrFun e1 y)
    rw [z]
    exact F1
  have e2 := mapP_eq (m := fun y => if y = Str.ofString "kinds" then some (Value.ref ka) else m y) (pt := pt) (p := (p : Int)) (fa := fa) (pa := pa) (ca := ca) ((if_neg (by decide)).trans hpk) ((if_neg (by decide)).trans hf) ((if_neg (by decide)).trans G.plains) ((if_neg (by decide)).trans G.cores)
  have N1' : News h₀ L h1 ((fa, W.listOf #[.int 0 f0] nf) :: (pa, W.listOf (plainsL p0 p1 p2 p3 p4 p5 p6 p7 p8 p9) 0) :: (ca, W.listOf (coreArr t1 t2 t3 t4 tp ls dc ba) 0) :: (ka, W.listOf (valK ([(0, f0)] ++ ks)).toArray 0) :: tw) := by
    intro q hq
    rcases List.mem_cons.mp hq with rfl | hq
    · exact N1 _ (.tail _ (.head _))
    · rcases List.mem_cons.mp hq with rfl | hq
      · exact N1 _ (.tail _ (.tail _ D.pa))
      · rcases List.mem_cons.mp hq with rfl | hq
        · exact N1 _ (.tail _ (.tail _ (D.co _ (.head _))))
        · rcases List.mem_cons.mp hq with rfl | hq
          · exact N1 _ (.head _)
          · exact N1 _ (.tail _ (.tail _ hq))
  dsimp only
  refine wpAny_execs_append (pro0 (f1 := f0) (p := p) (pt := pt) (nf := nf) (tw := (ka, W.listOf (valK ([(0, f0)] ++ ks)).toArray 0) :: tw) (m := fun y => if y = Str.ofString "kinds" then some (Value.ref ka) else m y) B (e2 ▸ F1) X N1' T hp fun ta h2 tk2 m2 F2 R2 hth h9 h10 N2 hlt2 => ?_)
  rw [← e2] at R2
  have sub : ∀ q ∈ tw, q ∈ (fa, W.listOf #[.int 0 f0] nf) :: (pa, W.listOf (plainsL p0 p1 p2 p3 p4 p5 p6 p7 p8 p9) 0) :: (ca, W.listOf (coreArr t1 t2 t3 t4 tp ls dc ba) 0) :: (ka, W.listOf (valK ([(0, f0)] ++ ks)).toArray 0) :: tw := fun q hq => .tail _ (.tail _ (.tail _ (.tail _ hq)))
  have D2 := D.sub sub
  have hn2 : m2 (Str.ofString "names") = some (.ref na) := (R2 _ (by decide) (by decide) (by decide) (by decide)).trans ((if_neg (by decide)).trans G.names)
  have hk2 : m2 (Str.ofString "kinds") = some (.ref ka) := (R2 _ (by decide) (by decide) (by decide) (by decide)).trans (if_pos rfl)
  have hfin : ∀ m' h tk, FR m2 m' → Fr h₀ L h m' → News h₀ L h ((fa, W.listOf #[.int 0 f0] nf) :: (pa, W.listOf (plainsL p0 p1 p2 p3 p4 p5 p6 p7 p8 p9) 0) :: (ca, W.listOf (coreArr t1 t2 t3 t4 tp ls dc ba) 0) :: (ka, W.listOf (valK ([(0, f0)] ++ ks)).toArray 0) :: tw) → Q .next { s with heap := h, toks := tk } := fun m' h tk R3 F3 N3 => fin m' h tk (fun y c1 c2 c3 c4 c5 c6 c7 c8 c9 => (R3 y c6 c3 c2 c7 c8 c9).trans ((R2 y c2 c3 c4 c5).trans (if_neg c1))) F3 fun q hq => N3 q (sub q hq)
  have h6 : ∀ q ∈ ((0, f0) :: ks : List (Int × Tok)), 0 ≤ q.1 ∧ q.1 < 6 := fun q hq => by
    rcases List.mem_cons.mp hq with rfl | hq
    · constructor <;> (dsimp only; omega)
    · exact hk6 q hq
  have hka : (ka, W.listOf (valK ((0, f0) :: ks)).toArray 0) ∈ (fa, W.listOf #[.int 0 f0] nf) :: (pa, W.listOf (plainsL p0 p1 p2 p3 p4 p5 p6 p7 p8 p9) 0) :: (ca, W.listOf (coreArr t1 t2 t3 t4 tp ls dc ba) 0) :: (ka, W.listOf (valK ([(0, f0)] ++ ks)).toArray 0) :: tw := .tail _ (.tail _ (.tail _ (.head _)))
  have hne := neAll_lt (tw := (fa, W.listOf #[.int 0 f0] nf) :: (pa, W.listOf (plainsL p0 p1 p2 p3 p4 p5 p6 p7 p8 p9) 0) :: (ca, W.listOf (coreArr t1 t2 t3 t4 tp ls dc ba) 0) :: (ka, W.listOf (valK ([(0, f0)] ++ ks)).toArray 0) :: tw) hlt2
  dsimp only
  by_cases c9 : p < 9
  · obtain ⟨u1, u2, hd1, hw1, hm1⟩ := h9 c9
    obtain ⟨tr, as, rp⟩ := core_empty (h₀ := h₀) c9 D2.co D2.sm
    obtain ⟨eq, el⟩ := core_quote c9
    exact tail3f (as := as) (rt := nameT p) (Ty := "str") B X T F2 N2 hne hn2 hth hd1 hk2 hm1 hw1 D2.na hka (by omega) h6 (fun u => (core_text eq el).v) tr rp el (fun u h _ _ s _ => typeIs_str s _ _) (fun h _ _ s _ => typeIs_str s _ _) (by decide) (fun u h _ _ => ne_text) hfin
  · have e9 : p = 9 := by omega
    subst e9
    obtain ⟨u1, u2, hd1, hw1, hm1⟩ := h10 rfl
    have I := core_info (h₀ := h₀) (p := 9) (by decide) D2.co D2.sm
    obtain ⟨Ty, ty, hT⟩ := I.ty
    exact tail3 (k := 0) (Ty := Ty) B X T F2 N2 hne hn2 hth hd1 hk2 hm1 hw1 D2.na hka (by omega) h6 (.inl rfl) I.v (fun _ h _ _ => truth_str9) I.len I.hh ty ty hT I.ne hfin
theorem round2 (B : Below callerA base [] h₀) (X : (hd06.heap_39 w.params).In h₀) (T : Top hd06.view_39 (looseW hd06.view_39 []) mean mg mb h₀)
    (hL : h₀.IsList sa vs.toArray) (hI : IntsAre vs ns) (hlen : ¬ (63 : Int) < ns.length)
    (F : Fr h₀ L s.heap m) (N : News h₀ L s.heap tw) (G : Fac m sa pa na ca) (D : Led tw na pa q0 q1 q2 q3 p0 p1 p2 p3 p4 p5 p6 p7 p8 p9 t1 t2 t3 t4 tp ls dc ba ca nd) (hp : p ≤ 9) (hpk : m (Str.ofString "pick") = some (.int (p : Int) pt)) (hf : m (Str.ofString "first") = some (.ref fa)) (hfa : (fa, W.listOf #[.int 2 f0, .int 0 f1] nf) ∈ tw)
    (fin : ∀ m' h tk, RR m m' → Fr h₀ L h m' → News h₀ L h tw → Q .next { s with heap := h, toks := tk }) :
    wpAny (model prog06 w) (callerA.deeper (lawE L a ccd)) (execs roundB (lawE L a ccd)) Q E0 s := by
  rw [roundB_eq]
  have e1 := mapF_eq hf G.script
  refine wpAny_execs_cons (kinds_stmt (fv := [(2, f0), (0, f1)]) (nf := nf) (m := m) (tw := tw) B (e1 ▸ F) X (fun q hq => ?_) T hL hI hlen (by simp) fun ka ks h1 tk1 F1 N1 hlt hks hk6 => ?_)
  · rcases List.mem_cons.mp hq with rfl | hq
    · exact N _ hfa
    · exact N q hq
  have F1 : Fr h₀ L h1 (fun y => if y = Str.ofString "kinds" then some (Value.ref ka) else m y) := by
    have z : (fun y => if y = Str.ofString "kinds" then some (Value.ref ka) else m y) = _ := funext fun y => congrArg (fun z => if y = Str.ofString "kinds" then some (Value.ref ka) else z) (congrFun e1 y)
    rw [z]
    exact F1
  have e2 := mapP_eq (m := fun y => if y = Str.ofString "kinds" then some (Value.ref ka) else m y) (pt := pt) (p := (p : Int)) (fa := fa) (pa := pa) (ca := ca) ((if_neg (by decide)).trans hpk) ((if_neg (by decide)).trans hf) ((if_neg (by decide)).trans G.plains) ((if_neg (by decide)).trans G.cores)
  have N1' : News h₀ L h1 ((fa, W.listOf #[.int 2 f0, .int 0 f1] nf) :: (pa, W.listOf (plainsL p0 p1 p2 p3 p4 p5 p6 p7 p8 p9) 0) :: (ca, W.listOf (coreArr t1 t2 t3 t4 tp ls dc ba) 0) :: (ka, W.listOf (valK ([(2, f0), (0, f1)] ++ ks)).toArray 0) :: tw) := by
    intro q hq
    rcases List.mem_cons.mp hq with rfl | hq
    · exact N1 _ (.tail _ (.head _))
    · rcases List.mem_cons.mp hq with rfl | hq
      · exact N1 _ (.tail _ (.tail _ D.pa))
      · rcases List.mem_cons.mp hq with rfl | hq
        · exact N1 _ (.tail _ (.tail _ (D.co _ (.head _))))
        · rcases List.mem_cons.mp hq with rfl | hq
          · exact N1 _ (.head _)
          · exact N1 _ (.tail _ (.tail _ hq))
  dsimp only
  refine wpAny_execs_append (pro2 (p := p) (pt := pt) (nf := nf) (tw := (ka, W.listOf (valK ([(2, f0), (0, f1)] ++ ks)).toArray 0) :: tw) (m := fun y => if y = Str.ofString "kinds" then some (Value.ref ka) else m y) B (e2 ▸ F1) X N1' T hp fun ta h2 tk2 m2 F2 R2 hth h9 N2 hlt2 => ?_)
  rw [← e2] at R2
  have sub : ∀ q ∈ tw, q ∈ (fa, W.listOf #[.int 2 f0, .int 0 f1] nf) :: (pa, W.listOf (plainsL p0 p1 p2 p3 p4 p5 p6 p7 p8 p9) 0) :: (ca, W.listOf (coreArr t1 t2 t3 t4 tp ls dc ba) 0) :: (ka, W.listOf (valK ([(2, f0), (0, f1)] ++ ks)).toArray 0) :: tw := fun q hq => .tail _ (.tail _ (.tail _ (.tail _ hq)))
  have D2 := D.sub sub
  have hn2 : m2 (Str.ofString "names") = some (.ref na) := (R2 _ (by decide) (by decide) (by decide) (by decide)).trans ((if_neg (by decide)).trans G.names)
  have hk2 : m2 (Str.ofString "kinds") = some (.ref ka) := (R2 _ (by decide) (by decide) (by decide) (by decide)).trans (if_pos rfl)
  have h6 : ∀ q ∈ ((2, f0) :: (0, f1) :: ks : List (Int × Tok)), 0 ≤ q.1 ∧ q.1 < 6 := fun q hq => by
    rcases List.mem_cons.mp hq with rfl | hq
    · constructor <;> (dsimp only; omega)
    · rcases List.mem_cons.mp hq with rfl | hq
      · constructor <;> (dsimp only; omega)
      · exact hk6 q hq
  have hka : (ka, W.listOf (valK ((2, f0) :: (0, f1) :: ks)).toArray 0) ∈ (fa, W.listOf #[.int 2 f0, .int 0 f1] nf) :: (pa, W.listOf (plainsL p0 p1 p2 p3 p4 p5 p6 p7 p8 p9) 0) :: (ca, W.listOf (coreArr t1 t2 t3 t4 tp ls dc ba) 0) :: (ka, W.listOf (valK ([(2, f0), (0, f1)] ++ ks)).toArray 0) :: tw := .tail _ (.tail _ (.tail _ (.head _)))
  have hne := neAll_lt (tw := (fa, W.listOf #[.int 2 f0, .int 0 f1] nf) :: (pa, W.listOf (plainsL p0 p1 p2 p3 p4 p5 p6 p7 p8 p9) 0) :: (ca, W.listOf (coreArr t1 t2 t3 t4 tp ls dc ba) 0) :: (ka, W.listOf (valK ([(2, f0), (0, f1)] ++ ks)).toArray 0) :: tw) hlt2
  obtain ⟨u1, u2, hd1, hw1, hm1⟩ := h9
  have I := core_info (h₀ := h₀) hp D2.co D2.sm
  obtain ⟨Ty, ty, hT⟩ := I.ty
  dsimp only
  exact tail3 (k := 2) (t := f0) (ks := (0, f1) :: ks) (Ty := Ty) B X T F2 N2 hne hn2 hth hd1 hk2 hm1 hw1 D2.na hka (by simp; omega) h6 (.inr rfl) I.v (fun h => absurd h (by decide)) I.len I.hh ty ty hT I.ne fun m' h tk R3 F3 N3 => fin m' h tk (fun y c1 c2 c3 c4 c5 c6 c7 c8 c9 => (R3 y c6 c3 c2 c7 c8 c9).trans ((R2 y c2 c3 c4 c5).trans (if_neg c1))) F3 fun q hq => N3 q (sub q hq)
end
end Mine
end

-- Outer
section
open PySem PySem.W PyProof.Rows PySem.Spec PySem.Calls
set_option linter.unusedVariables false
namespace Mine
theorem first_local {L a : Addr} {ccd : Value} : (lawE L a ccd).kindOf (Str.ofString "first") = some .local := by kernel_rfl
theorem pick_local {L a : Addr} {ccd : Value} : (lawE L a ccd).kindOf (Str.ofString "pick") = some .local := by kernel_rfl
def RI (m m' : Str → Option Value) : Prop := ∀ y, y ≠ Str.ofString "first" → y ≠ Str.ofString "kinds" → y ≠ Str.ofString "words" → y ≠ Str.ofString "name" → y ≠ Str.ofString "due" → y ≠ Str.ofString "things" → y ≠ Str.ofString "kind" → y ≠ Str.ofString "k" → y ≠ Str.ofString "err" → y ≠ Str.ofString "below" → m' y = m y
theorem RI.fac {m m' : Str → Option Value} {sa pa na ca : Addr} (R : RI m m') (H : Fac m sa pa na ca) : Fac m' sa pa na ca :=
  ⟨(R _ (by decide) (by decide) (by decide) (by decide) (by decide) (by decide) (by decide) (by decide) (by decide) (by decide)).trans H.script, (R _ (by decide) (by decide) (by decide) (by decide) (by decide) (by decide) (by decide) (by decide) (by decide) (by decide)).trans H.plains,
   (R _ (by decide) (by decide) (by decide) (by decide) (by decide) (by decide) (by decide) (by decide) (by decide) (by decide)).trans H.names, (R _ (by decide) (by decide) (by decide) (by decide) (by decide) (by decide) (by decide) (by decide) (by decide) (by decide)).trans H.cores⟩
theorem Fac.first {m : Str → Option Value} {sa pa na ca : Addr} {v : Value} (H : Fac m sa pa na ca) : Fac (fun y => if y = Str.ofString "first" then some v else m y) sa pa na ca :=
  ⟨(if_neg (by decide)).trans H.script, (if_neg (by decide)).trans H.plains, (if_neg (by decide)).trans H.names, (if_neg (by decide)).trans H.cores⟩
theorem Fac.pick {m : Str → Option Value} {sa pa na ca : Addr} {v : Value} (H : Fac m sa pa na ca) : Fac (fun y => if y = Str.ofString "pick" then some v else m y) sa pa na ca :=
  ⟨(if_neg (by decide)).trans H.script, (if_neg (by decide)).trans H.plains, (if_neg (by decide)).trans H.names, (if_neg (by decide)).trans H.cores⟩
set_option maxRecDepth 100000 in
set_option maxHeartbeats 3000000 in
/-- the tuple of the two first lists -/
theorem first_stmt {w : World} {mean : ExcName → Option Value} {mg mb : Str → Option Value} {a : Addr} {ccd : Value} {base h₀ : Heap} {L : Addr} {s : Shared} {Q : Flow → Shared → Prop} {m : Str → Option Value} {tw : List (Addr × Obj)}
    (B : Below callerA base [] h₀) (F : Fr h₀ L s.heap m) (X : (hd06.heap_39 w.params).In h₀) (N : News h₀ L s.heap tw) (T : Top hd06.view_39 (looseW hd06.view_39 []) mean mg mb h₀)
    (rest : ∀ I fa fb ft f0 f1 f2 px hx tk, (∀ p ∈ (ft, ({ cls := .type "tuple", data := .seq #[.ref fa, .ref fb] } : Obj)) :: (fb, W.listOf #[.int 2 f1, .int 0 f2] 0) :: (fa, W.listOf #[.int 0 f0] 0) :: tw, p.1 < I) → ItemsRest prog06 w (callerA.deeper (lawE L a ccd)) E0 h₀ (lawE L a ccd) (.Name (Str.ofString "first") px) roundB Q { s with heap := hx, toks := tk } [(I, "tuple_iterator")] [(ft, ({ cls := .type "tuple", data := .seq #[.ref fa, .ref fb] } : Obj))] [Itm.val (.ref fa), Itm.val (.ref fb)] m ((ft, ({ cls := .type "tuple", data := .seq #[.ref fa, .ref fb] } : Obj)) :: (fb, W.listOf #[.int 2 f1, .int 0 f2] 0) :: (fa, W.listOf #[.int 0 f0] 0) :: tw)) :
    wpAny (model prog06 w) (callerA.deeper (lawE L a ccd)) (exec firstFor (lawE L a ccd)) Q E0 s := by
  have hfill : PySem.Challenge.rw_dm0148_06.about = PySem.Challenge.rw_dm0148_06.about ∧ hd06.heap_39 = hd06.heap_39 := by k_fill; exact ⟨rfl, rfl⟩
  clear hfill
  conv in (exec _ _) => arg 1; whnf
  refine For_turns (env := lawE L a ccd) F ?_ (by intro _; rfl) PassesOwn.never
  w_strict (k_steps)
  exact iter_tupTurns (env := lawE L a ccd) (vs := [.ref _, .ref _]) (n := 0) rfl (by assumption) (by assumption) (.head _) rfl rfl fun I hI => rest _ _ _ _ _ _ _ _ _ _ hI
set_option maxRecDepth 100000 in
set_option maxHeartbeats 3000000 in
theorem pick_stmt {w : World} {mean : ExcName → Option Value} {mg mb : Str → Option Value} {a : Addr} {ccd : Value} {base h₀ : Heap} {L : Addr} {s : Shared} {Q : Flow → Shared → Prop} {m : Str → Option Value} {tw : List (Addr × Obj)} {n : Int} {tt : Tok}
    (B : Below callerA base [] h₀) (F : Fr h₀ L s.heap (fun y => if y = Str.ofString "total" then some (.int n tt) else m y)) (X : (hd06.heap_39 w.params).In h₀) (N : News h₀ L s.heap tw) (T : Top hd06.view_39 (looseW hd06.view_39 []) mean mg mb h₀)
    (rest : ∀ I ft f0 f1 f2 f3 px hx tk, (∀ p ∈ (ft, ({ cls := .type "tuple", data := .seq #[.int 8 f0, .int 9 f1, .int (n.fmod 8) f2, .int ((n + 1).fmod 8) f3] } : Obj)) :: tw, p.1 < I) → ItemsRest prog06 w (callerA.deeper (lawE L a ccd)) E0 h₀ (lawE L a ccd) (.Name (Str.ofString "pick") px) [firstFor] Q { s with heap := hx, toks := tk } [(I, "tuple_iterator")] [(ft, ({ cls := .type "tuple", data := .seq #[.int 8 f0, .int 9 f1, .int (n.fmod 8) f2, .int ((n + 1).fmod 8) f3] } : Obj))] [Itm.val (.int 8 f0), Itm.val (.int 9 f1), Itm.val (.int (n.fmod 8) f2), Itm.val (.int ((n + 1).fmod 8) f3)] (fun y => if y = Str.ofString "total" then some (.int n tt) else m y) ((ft, ({ cls := .type "tuple", data := .seq #[.int 8 f0, .int 9 f1, .int (n.fmod 8) f2, .int ((n + 1).fmod 8) f3] } : Obj)) :: tw)) :
    wpAny (model prog06 w) (callerA.deeper (lawE L a ccd)) (exec pickFor (lawE L a ccd)) Q E0 s := by
  have hfill : PySem.Challenge.rw_dm0148_06.about = PySem.Challenge.rw_dm0148_06.about ∧ hd06.heap_39 = hd06.heap_39 := by k_fill; exact ⟨rfl, rfl⟩
  clear hfill
  conv in (exec _ _) => arg 1; whnf
  refine For_turns (env := lawE L a ccd) F ?_ (by intro _; rfl) PassesOwn.never
  w_strict (k_steps)
  exact iter_tupTurns (env := lawE L a ccd) (vs := [.int _ _, .int _ _, .int _ _, .int _ _]) (n := 0) rfl (by assumption) (by assumption) (.head _) rfl rfl fun I hI => rest _ _ _ _ _ _ _ _ _ hI
section
variable {w : World} {mean : ExcName → Option Value} {mg mb : Str → Option Value} {a : Addr} {ccd : Value} {base h₀ : Heap} {L : Addr} {s : Shared} {Q : Flow → Shared → Prop} {m : Str → Option Value} {sa na pa : Addr} {vs : List Value} {ns : List Int} {tw : List (Addr × Obj)} {q0 q1 q2 q3 p0 p1 p2 p3 p4 p5 p6 p7 p8 p9 t1 t2 t3 t4 pt : Tok} {tp ls dc ba ca : Addr} {nd p : Nat}
theorem first_whole (B : Below callerA base [] h₀) (X : (hd06.heap_39 w.params).In h₀) (T : Top hd06.view_39 (looseW hd06.view_39 []) mean mg mb h₀)
    (hL : h₀.IsList sa vs.toArray) (hI : IntsAre vs ns) (hlen : ¬ (63 : Int) < ns.length)
    (F : Fr h₀ L s.heap m) (N : News h₀ L s.heap tw) (G : Fac m sa pa na ca) (D : Led tw na pa q0 q1 q2 q3 p0 p1 p2 p3 p4 p5 p6 p7 p8 p9 t1 t2 t3 t4 tp ls dc ba ca nd) (hp : p ≤ 9) (hpk : m (Str.ofString "pick") = some (.int (p : Int) pt))
    (fin : ∀ m' h tk, RI m m' → Fr h₀ L h m' → News h₀ L h tw → Q .next { s with heap := h, toks := tk }) :
    wpAny (model prog06 w) (callerA.deeper (lawE L a ccd)) (exec firstFor (lawE L a ccd)) Q E0 s := by
  refine first_stmt B F X N T fun I fa fb ft f0 f1 f2 px hx tk hlt => ?_
  refine ItemsRest.val fun h tk F => AllObj.cons fun o ho => AllObj.nil fun N => ?_
  refine wpAny_assign_Name (wpAny_storeName_local (m := m) first_local F.ns (fun h1 n1 sb => ?_) law_plain)
  have F1 := F.set n1 sb
  have N1 := news_set N sb
  refine round0 (p := p) (pt := pt) (fa := fa) B X T hL hI hlen F1 N1 G.first (D.sub fun q hq => .tail _ (.tail _ (.tail _ (.tail _ hq)))) hp ((if_neg (by decide)).trans hpk) (if_pos rfl) (.tail _ (.tail _ (.tail _ (.head _)))) fun m2 h2 tk2 R2 F2 N2 => ?_
  refine ⟨h2, tk2, m2, _, rfl, F2, N2, ?_, ⟨.head _, trivial⟩, ?_⟩
  · intro p hp q hq
    rcases List.mem_cons.mp hq with rfl | hq
    · exact Nat.ne_of_lt (hlt p hp)
    · cases hq
  have G2 := R2.fac G.first
  have hpk2 : m2 (Str.ofString "pick") = some (.int (p : Int) pt) := R2.pick.trans ((if_neg (by decide)).trans hpk)
  refine ItemsRest.val fun h tk F => AllObj.cons fun o ho => AllObj.nil fun N => ?_
  refine wpAny_assign_Name (wpAny_storeName_local (m := m2) first_local F.ns (fun h1 n1 sb => ?_) law_plain)
  have F1 := F.set n1 sb
  have N1 := news_set N sb
  refine round2 (p := p) (pt := pt) (fa := fb) B X T hL hI hlen F1 N1 G2.first (D.sub fun q hq => .tail _ (.tail _ (.tail _ (.tail _ hq)))) hp ((if_neg (by decide)).trans hpk2) (if_pos rfl) (.tail _ (.tail _ (.head _))) fun m3 h3 tk3 R3 F3 N3 => ?_
  refine ⟨h3, tk3, m3, _, rfl, F3, N3, ?_, ⟨.head _, trivial⟩, ?_⟩
  · intro p hp q hq
    rcases List.mem_cons.mp hq with rfl | hq
    · exact Nat.ne_of_lt (hlt p hp)
    · cases hq
  exact ItemsRest.zero fun h tk F N => fin m3 h tk (fun y c0 c1 c2 c3 c4 c5 c6 c7 c8 c9 => (R3 y c1 c2 c3 c4 c5 c6 c7 c8 c9).trans ((if_neg c0).trans ((R2 y c1 c2 c3 c4 c5 c6 c7 c8 c9).trans (if_neg c0)))) F fun q hq => N q (.tail _ (.tail _ (.tail _ hq)))
theorem pick_rest {I : Addr} {px : Pos} {lo : Addr × Obj} (B : Below callerA base [] h₀) (X : (hd06.heap_39 w.params).In h₀) (T : Top hd06.view_39 (looseW hd06.view_39 []) mean mg mb h₀)
    (hL : h₀.IsList sa vs.toArray) (hI : IntsAre vs ns) (hlen : ¬ (63 : Int) < ns.length) (hlo : lo ∈ tw) (hlt : ∀ p ∈ tw, p.1 < I)
    (D : Led tw na pa q0 q1 q2 q3 p0 p1 p2 p3 p4 p5 p6 p7 p8 p9 t1 t2 t3 t4 tp ls dc ba ca nd)
    (fin : ∀ m' h tk, Fr h₀ L h m' → News h₀ L h tw → Q .next { s with heap := h, toks := tk }) :
    ∀ (ps : List (Nat × Tok)) (m : Str → Option Value), (∀ q ∈ ps, q.1 ≤ 9) → Fac m sa pa na ca →
      ItemsRest prog06 w (callerA.deeper (lawE L a ccd)) E0 h₀ (lawE L a ccd) (.Name (Str.ofString "pick") px) [firstFor] Q s [(I, "tuple_iterator")] [lo] (ps.map fun q => Itm.val (.int (q.1 : Int) q.2)) m tw
  | [], m, h9, G => ItemsRest.zero fun h tk F N => fin m h tk F N
  | (p, pt) :: ps, m, h9, G => by
    refine ItemsRest.val fun h tk F => AllObj.cons fun o ho => AllObj.nil fun N => ?_
    refine wpAny_assign_Name (wpAny_storeName_local (m := m) pick_local F.ns (fun h1 n1 sb => ?_) law_plain)
    have F1 := F.set n1 sb
    have N1 := news_set N sb
    refine wpAny_execs_cons (first_whole (p := p) (pt := pt) B X T hL hI hlen F1 N1 G.pick (D.sub fun q hq => .tail _ hq) (h9 _ (.head _)) (if_pos rfl) fun m2 h2 tk2 R2 F2 N2 => wpAny_execs_nil ?_)
    refine ⟨h2, tk2, m2, tw, rfl, F2, N2, ?_, ⟨hlo, trivial⟩, ?_⟩
    · intro p hp q hq
      rcases List.mem_cons.mp hq with rfl | hq
      · exact Nat.ne_of_lt (hlt p hp)
      · cases hq
    exact pick_rest B X T hL hI hlen hlo hlt D fin ps m2 (fun q hq => h9 q (.tail _ hq)) (R2.fac G.pick)
theorem fmod8 (n : Int) : ∃ p : Nat, p ≤ 9 ∧ (p : Int) = n.fmod 8 := by
  have h1 := Int.fmod_nonneg_of_pos n (b := 8) (by decide)
  have h2 := Int.fmod_lt_of_pos n (b := 8) (by decide)
  exact ⟨(n.fmod 8).toNat, by omega, by omega⟩
theorem pick_whole {n : Int} {tt : Tok} (B : Below callerA base [] h₀) (X : (hd06.heap_39 w.params).In h₀) (T : Top hd06.view_39 (looseW hd06.view_39 []) mean mg mb h₀)
    (hL : h₀.IsList sa vs.toArray) (hI : IntsAre vs ns) (hlen : ¬ (63 : Int) < ns.length)
    (F : Fr h₀ L s.heap (fun y => if y = Str.ofString "total" then some (.int n tt) else m y)) (N : News h₀ L s.heap tw) (G : Fac m sa pa na ca) (D : Led tw na pa q0 q1 q2 q3 p0 p1 p2 p3 p4 p5 p6 p7 p8 p9 t1 t2 t3 t4 tp ls dc ba ca nd)
    (fin : ∀ m' h tk, Fr h₀ L h m' → News h₀ L h tw → Q .next { s with heap := h, toks := tk }) :
    wpAny (model prog06 w) (callerA.deeper (lawE L a ccd)) (exec pickFor (lawE L a ccd)) Q E0 s := by
  refine pick_stmt B F X N T fun I ft f0 f1 f2 f3 px hx tk hlt => ?_
  obtain ⟨x, hx9, ex⟩ := fmod8 n
  obtain ⟨y, hy9, ey⟩ := fmod8 (n + 1)
  rw [← ex, ← ey]
  rw [← ex, ← ey] at hlt
  refine pick_rest B X T hL hI hlen (.head _) hlt (D.sub fun q hq => .tail _ hq) (fun m' h tk F N => fin m' h tk F fun q hq => N q (.tail _ hq)) [(8, f0), (9, f1), (x, f2), (y, f3)] _ ?_ ⟨(if_neg (by decide)).trans G.script, (if_neg (by decide)).trans G.plains, (if_neg (by decide)).trans G.names, (if_neg (by decide)).trans G.cores⟩
  intro q hq
  simp only [List.mem_cons, List.not_mem_nil, or_false] at hq
  rcases hq with rfl | rfl | rfl | rfl <;> first | exact (by decide : (8 : Nat) ≤ 9) | exact (by decide : (9 : Nat) ≤ 9) | assumption
end
end Mine
end

-- Body
section
open PySem PySem.W PyProof.Rows PySem.Spec PySem.Calls
set_option linter.unusedVariables false
namespace Mine
def retS : Stmt := nthS lawB 5
theorem lawB_eq : lawB = coresS :: (preB ++ [pickFor, retS]) := by with_unfolding_all rfl
set_option maxRecDepth 100000 in
set_option maxHeartbeats 3000000 in
theorem ret_stmt {w : World} {A : Around} {env : Env} {s : Shared} {Q : Flow → Shared → Prop} (fin : Q (.ret (.bool true)) s) : wpAny (model prog06 w) A (exec retS env) Q E0 s := by
  conv in (exec _ _) => arg 1; whnf
  w_strict (k_steps)
  exact fin
theorem mapSc_eq {m : Str → Option Value} {sa : Addr} (h1 : m (Str.ofString "script") = some (.ref sa)) : m = fun y => if y = Str.ofString "script" then some (.ref sa) else m y := by
  refine funext fun y => ?_
  by_cases c1 : y = Str.ofString "script"
  · subst c1; exact h1
  · rw [if_neg c1]
theorem seqG {M : Model} {Γ : PySem.Ctx} {A : Around} {env : Env} {st : Stmt} {rest : List Stmt} {Q : Flow → Shared → Prop} {E : Value → Shared → Prop} {s : Shared} {P : Shared → Prop} (hΓ : Γ.In A) (h2 : ∀ s', P s' → wpAny M A (execs rest env) Q E s') (h1 : wpG M Γ (exec st env) (fun f s' => f = .next ∧ P s') E s) : wpG M Γ (execs (st :: rest) env) Q E s :=
  wpG_execs_cons (wpG_mono h1 (fun f s' z => by obtain ⟨rfl, z⟩ := z; exact wpG_any hΓ (h2 s' z)) fun _ _ z => z)
set_option maxRecDepth 100000 in
set_option maxHeartbeats 3000000 in
theorem law_rest {w : World} {mean : ExcName → Option Value} {mg mb : Str → Option Value} {a : Addr} {ccd : Value} {base h₀ : Heap} {L : Addr} {m : Str → Option Value} {s : Shared} {Q : Flow → Shared → Prop} {sa : Addr} {vs : List Value} {ns : List Int} {t1 t2 t3 t4 : Tok} {tp ls dc ba ca : Addr} {nd : Nat}
    (B : Below callerA base [] h₀) (F1 : Fr h₀ L s.heap (fun y => if y = Str.ofString "cores" then some (.ref ca) else m y)) (X : (hd06.heap_39 w.params).In h₀) (N1 : News h₀ L s.heap (coreLed t1 t2 t3 t4 tp ls dc ba ca nd)) (T : Top hd06.view_39 (looseW hd06.view_39 []) mean mg mb h₀)
    (o1 : @LT.lt Nat _ tp ls ∧ @LT.lt Nat _ ls dc ∧ @LT.lt Nat _ dc ba ∧ @LT.lt Nat _ ba ca) (hdc : dc ≠ sysModules)
    (hL : h₀.IsList sa vs.toArray) (hI : IntsAre vs ns) (hlen : ¬ (63 : Int) < ns.length) (hs : m (Str.ofString "script") = some (.ref sa))
    (fin : ∀ m' h tk, Fr h₀ L h m' → Q (.ret (.bool true)) { s with heap := h, toks := tk }) :
    wpAny (model prog06 w) (callerA.deeper (lawE L a ccd)) (execs (preB ++ [pickFor, retS]) (lawE L a ccd)) Q E0 s := by
  have e1 := mapSc_eq (m := fun y => if y = Str.ofString "cores" then some (Value.ref ca) else m y) (sa := sa) ((if_neg (by decide)).trans hs)
  rw [e1] at F1
  have key := fun Q' => @pre_stmts w mean mg mb a ccd base h₀ L (fun y => if y = Str.ofString "cores" then some (Value.ref ca) else m y) s Q' sa vs ns t1 t2 t3 t4 tp ls dc ba ca nd B F1 X N1 T hL hI hlen o1
  revert key
  generalize preB = xs
  intro key
  refine wpAny_execs_append (key _ ?_)
  clear key
  intro na pa q0 q1 q2 q3 p0 p1 p2 p3 p4 p5 p6 p7 p8 p9 tt h2 tk2 F2 N2 o2
  dsimp only
  refine wpAny_execs_cons (pick_whole (q0 := q0) (q1 := q1) (q2 := q2) (q3 := q3) (p0 := p0) (p1 := p1) (p2 := p2) (p3 := p3) (p4 := p4) (p5 := p5) (p6 := p6) (p7 := p7) (p8 := p8) (p9 := p9) (t1 := t1) (t2 := t2) (t3 := t3) (t4 := t4) (tp := tp) (ls := ls) (dc := dc) (ba := ba) (ca := ca) (nd := nd) (na := na) (pa := pa) (sa := sa) B X T hL hI hlen F2 N2 ?_ ?_ fun m' h tk F' N' => ?_)
  · exact ⟨by rfl, by rfl, by rfl, by rfl⟩
  · exact ⟨.head _, .tail _ (.head _), fun q hq => .tail _ (.tail _ hq), hdc⟩
  · dsimp only
    refine wpAny_execs_cons (ret_stmt ?_)
    exact fin m' h tk F'
set_option maxRecDepth 100000 in
set_option maxHeartbeats 3000000 in
theorem law_body {w : World} {mean : ExcName → Option Value} {mg mb : Str → Option Value} {a : Addr} {ccd : Value} {base h₀ : Heap} {L : Addr} {m : Str → Option Value} {s : Shared} {Γ : PySem.Ctx} {p3 : Pos} {Q : Flow → Shared → Prop} {body : List Stmt} {sa : Addr} {vs : List Value} {ns : List Int}
    (hΓ : Γ.In (callerA.deeper (lawE L a ccd))) (hc : Γ.code = .func body (lawE L a ccd)) (hb : Γ.below = [(.builtin "claim.caller" {}, p3)])
    (B : Below callerA base [] h₀) (F : Fr h₀ L s.heap m) (X : (hd06.heap_39 w.params).In h₀) (N : News h₀ L s.heap []) (T : Top hd06.view_39 (looseW hd06.view_39 []) mean mg mb h₀)
    (hL : h₀.IsList sa vs.toArray) (hI : IntsAre vs ns) (hlen : ¬ (63 : Int) < ns.length) (hs : m (Str.ofString "script") = some (.ref sa))
    (fin : ∀ m' h tk, Fr h₀ L h m' → Q (.ret (.bool true)) { s with heap := h, toks := tk }) :
    wpG (model prog06 w) Γ (execs lawB (lawE L a ccd)) Q E0 s := by
  rw [lawB_eq]
  have key := fun Q' => @cores_stmt w mean mg mb a ccd base h₀ L m s Γ p3 Q' body hΓ hc hb B F X N T
  have r := fun t1 t2 t3 t4 tp ls dc ba ca nd (h' : Heap) (tk' : Nat) F1 N1 o1 hdc => @law_rest w mean mg mb a ccd base h₀ L m { s with heap := h', toks := tk' } Q sa vs ns t1 t2 t3 t4 tp ls dc ba ca nd B F1 X N1 T o1 hdc hL hI hlen hs
  revert key r
  generalize coresS = st
  generalize preB ++ [pickFor, retS] = rest
  intro key r
  refine seqG (P := fun s' => wpAny (model prog06 w) (callerA.deeper (lawE L a ccd)) (execs rest (lawE L a ccd)) Q E0 s') hΓ (fun _ z => z) (key _ ?_)
  intro t1 t2 t3 t4 tp ls dc ba ca nd h' tk' F1 N1 o1 hdc
  exact ⟨rfl, r t1 t2 t3 t4 tp ls dc ba ca nd h' tk' F1 N1 o1 hdc fin⟩
end Mine
end

-- Call
section
open PySem PySem.W PyProof.Rows PySem.Spec PySem.Calls
set_option linter.unusedVariables false
namespace Mine
def parS : Stmt → Arguments
  | .FunctionDef _ ps _ _ _ _ _ _ _ _ => ps
  | _ => default
def lawPar : Arguments := parS lawDef
theorem law_co : lawScope.isCoroutine = false := by kernel_rfl
theorem law_gen : lawScope.isGenerator = false := by kernel_rfl
theorem law_kind : lawScope.kind = .function := by kernel_rfl
theorem law_cell : ∀ x ∈ lawScope.names, x.2 ≠ .cell := by decide +kernel
theorem law_loc {v : Value} : ∀ x ∈ [(Str.ofString "script", v)], lawScope.names.lookup x.1 = some .local := by
  intro x hx
  rw [List.mem_singleton.mp hx]
  kernel_rfl
theorem law_bind {pm cd doc kV v : Value} : bindArgs { docDef (Str.ofString "law") lawPar lawB lawScope pm cd doc with defaults := .none, kwdefaults := kV } ⟨[v], []⟩ = pure [(Str.ofString "script", v)] := by kernel_rfl
set_option maxRecDepth 100000 in
set_option maxHeartbeats 3000000 in
theorem law_call {w : World} {mean : ExcName → Option Value} {mg mb : Str → Option Value} {fa : Addr} {o : Obj} {pm cd doc kV : Value} {s : Shared} {sa : Addr} {vs : List Value} {ns : List Int} {Q : Value → Shared → Prop} {E : Value → Shared → Prop}
    (ho : s.heap.get? fa = some o) (hd : o.data = .func { docDef (Str.ofString "law") lawPar lawB lawScope pm cd doc with defaults := .none, kwdefaults := kV }) (hcd : s.heap.CodeRec cd (Str.ofString "law"))
    (X : (hd06.heap_39 w.params).In s.heap) (T : Top hd06.view_39 (looseW hd06.view_39 []) mean mg mb s.heap) (hL : s.heap.IsList sa vs.toArray) (hI : IntsAre vs ns) (hlen : ¬ (63 : Int) < ns.length)
    (fin : ∀ m' h tk, Fr s.heap s.heap.objs.size h m' → Q (.bool true) { s with heap := h, toks := tk }) :
    wpG (model prog06 w) Γ₀ (PySem.call (.ref fa) [.ref sa]) Q E s := by
  have z := @call_def_G prog06 w callerA E s Γ₀ (Str.ofString "law") lawPar lawB lawScope .none kV pm cd doc fa o [.ref sa] [(Str.ofString "script", .ref sa)] Q caller_in (by decide) ho hd (Top.nolimit T) hcd (BindsTo.of_eq law_bind) law_loc
  refine z ?_ law_co law_gen law_kind law_cell
  clear z
  intro Γ' p h₁ hc hb hin F
  have key := @law_body w mean mg mb fa cd s.heap s.heap s.heap.objs.size (fun x => ([(Str.ofString "script", Value.ref sa)] : List (Str × Value)).reverse.lookup x) { s with heap := h₁, toks := s.toks + 1 } Γ' p (fun f s' => Q (match f with | .ret v => v | _ => .none) s') lawB sa vs ns hin hc hb (below_caller s.heap) F X ((News.nil : News s.heap s.heap.objs.size h₁ [])) T hL hI hlen (by rfl)
  clear hc hd
  revert key
  generalize lawB = b
  intro key
  refine key ?_
  intro m' h tk F'
  exact fin m' h tk F'
end Mine
end

-- Join
section
open PySem PySem.W PyProof.Rows PySem.Spec PySem.Calls
set_option linter.unusedVariables false
namespace Mine
set_option maxRecDepth 100000 in
set_option maxHeartbeats 8000000 in
theorem whole06 : PySem.Challenge.rw_dm0148_06.Holds := by
  refine hd06 ?_
  intro w s₀ s₁ mg mb G Y fa o pm cd doc dV kV ho hd hcd hD hmg hg args vals as hpre hlay hrd hwl hlo
  have KX := kIn_of Y
  have X := (Ground.X G).1
  have V := (Ground.X G).2
  refine Ground.open G ?_
  intro T B D TE TW
  clear hmg
  wrow_args hpre hlay hrd hwl hlo
  have he := Dflts.none hD rfl
  subst he
  rename IntsAre _ _ => hI
  rename Heap.IsList _ _ _ => hL
  rename ¬ _ => hlen
  have hd' : o.data = .func { docDef (Str.ofString "law") lawPar lawB lawScope pm cd doc with defaults := .none, kwdefaults := kV } := by with_unfolding_all exact hd
  refine law_call ho hd' hcd KX T hL hI hlen fun m' h tk F => GoodW.toG (goodW_bool F hg (raisesW_false ?_) ?_)
  · wrow_none_raised
  · wrow_post
end Mine
end

theorem PySem.Challenge.cw_dm0148_06_holds : PySem.Challenge.rw_dm0148_06.Holds :=
  Mine.whole06

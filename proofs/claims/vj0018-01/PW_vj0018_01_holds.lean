import PyProof.Rows.All
import Wide.All
import OpenK.AllK
import Wide.FinOn
import KE.KLam
import KE.KTryMore
import PyProof.GenArm
import PyProof.TupleOfGen
import PyProof.StrLaws
import Lean
import PySem.Challenge.RW_vj0018_01
set_option linter.all false
section
open PySem PySem.W PyProof.Rows
set_option Elab.async false
set_option maxRecDepth 100000
set_option maxHeartbeats 8000000
namespace Mine
local macro_rules | `(tactic| o_head (kmHook $k $a $e $t)) => `(tactic| o_head ((kmHook $k $a $e (389 :: $t))))
open_top hd for PySem.Challenge.rw_vj0018_01
end Mine
end
section
open PySem PySem.W PyProof.Rows PySem.Calls PySem.Spec
set_option Elab.async false
set_option maxRecDepth 100000
set_option maxHeartbeats 1000000
namespace Mine
/-- what a law's call that answers True must leave: finished generators may stay behind, the tables of the codes may grow -/
theorem post_law {M : Model} {A : Around} {cd : Code} {s s₁ : Shared} {cw : ClaimW} {cl : Str → Option Addr} {mean : ExcName → Option Value} {args : List WData} {tabs : List (Addr × Addr)} (hT : TabsAt tabs s₁.heap) (hr : ∀ x, cw.raises args x = false) (hp : cw.post args (.bool true) args = true)
    (h : codeAny M A cd (fun r s' => r = .ok (.ret (.bool true)) ∧ (∀ b o, (ghostOf s₁.heap tabs).get? b = some o → s'.heap.get? b = some o) ∧ s'.os = s₁.os ∧ AllBare s'.gens ∧ GrownAll tabs s'.heap) s) : codeAny M A cd (GoodWG cw cl mean args s₁) s := by
  refine codeAny_mono h ?_
  rintro r s' ⟨rfl, old, os, bare, grown⟩
  have all : ∀ b o, s₁.heap.get? b = some o → asItWas s₁.heap s'.heap b o ∧ ∃ o', s'.heap.get? b = some o' := by
    intro b o e
    by_cases q : ∃ t ∈ tabs, t.2 = b
    · obtain ⟨t, ht, rfl⟩ := q
      obtain ⟨ps, hP⟩ := grown.get t ht
      have k := hT t ht
      have eo : o = tabObj #[] := Option.some.inj (e.symm.trans k.2)
      subst eo
      exact ⟨.inr (.inl ⟨(k.1.tab k.2).isCodeTable, rfl, #[], ps, rfl, by rw [Array.empty_append]; exact hP⟩), _, hP⟩
    · have z := old b o (ghost_ne e fun m => by
        obtain ⟨t, ht, e2⟩ := List.mem_map.mp m
        exact q ⟨t, ht, e2⟩)
      exact ⟨.inl z, o, z⟩
  exact ⟨.inl ⟨_, .bool true, [], rfl, hr, ReadsW.bool true, hp, fun _ => ⟨List.nodup_nil, fun _ hm => nomatch hm⟩⟩, ⟨fun b o e => (all b o e).1, fun b o e => (all b o e).2⟩, os, bare⟩
end Mine
end
section
open PySem PySem.W PyProof.Rows PySem.Calls PySem.Spec
set_option Elab.async false
set_option maxRecDepth 100000
set_option maxHeartbeats 4000000
namespace Mine
/-- a walk stops here -/
structure Stop (P : Prop) : Prop where
  go : P
/-- an iterator over a tuple -/
def ItT (o : Obj) (ax : Addr) (i : Nat) : Prop := o.cls = .type "tuple_iterator" ∧ o.data = .fields #[.ref ax, .int i 0]
section
variable (prog : Program) (w : World) (A : Around) (E : Value → Shared → Prop) (h₀ : Heap) (env : Env) (target : Expr) (body orelse : List Stmt) (Q : Flow → Shared → Prop)
  (I ax : Addr) (items : Array Value) (G : Array GenState) (D : Drawn) (O : OsState)
/-- the turns of a for over a tuple, one after another -/
def TupTurns : List Value → Nat → (Str → Option Value) → List (Addr × Obj) → Prop
  | [], _, m, news => ∀ h tk, Fr h₀ env.locals h m → News h₀ env.locals h news → wpAny (model prog w) A (execs orelse env) Q E ⟨h, G, D, tk, O⟩
  | v :: r, i, m, news => ∀ h tk oi, Fr h₀ env.locals h m → News h₀ env.locals h ((I, oi) :: news) → ItT oi ax (i + 1) →
      wpAny (model prog w) A (assign target env v) (fun _ s₂ => wpAny (model prog w) A (execs body env) (fun f s₃ => match f with
        | .ret v => Q (.ret v) s₃
        | .brk => Q .next s₃
        | _ => Stop (∃ h' tk' m' news', s₃ = ⟨h', G, D, tk', O⟩ ∧ Fr h₀ env.locals h' m' ∧ News h₀ env.locals h' ((I, oi) :: news') ∧ (∀ p ∈ news', p.1 ≠ I) ∧ h'.IsTuple ax items ∧ TupTurns r (i + 1) m' news')) E s₂) E ⟨h, G, D, tk, O⟩
end
section
variable {prog : Program} {w : World} {A : Around} {E : Value → Shared → Prop} {h₀ : Heap} {env : Env} {target : Expr} {body orelse : List Stmt} {Q : Flow → Shared → Prop} {s : Shared}
theorem tupTurns_run {I ax : Addr} {vs : List Value} {G : Array GenState} {D : Drawn} {O : OsState} {R : Result → Shared → Prop} {m : Str → Option Value} {news : List (Addr × Obj)} {h : Heap} {tk : Nat}
    (hh : A.handled = none) (hne : ax ≠ I) (hit : h.IsTupleIter I ax 0) (ht : h.IsTuple ax vs.toArray) (hfresh : h₀.get? I = none) (hIL : I ≠ env.locals) (hoff : ∀ p ∈ news, p.1 ≠ I)
    (F : Fr h₀ env.locals h m) (N : News h₀ env.locals h news)
    (hT : TupTurns prog w A (notedBy (model prog w) A env fun e s' => R (.error e) s') h₀ env target body orelse (fun f s' => R (.ok f) s') I ax vs.toArray G D O vs 0 m news) :
    codeAny (model prog w) A (.forLoop target (.ref I) body orelse env) R ⟨h, G, D, tk, O⟩ := by
  refine codeAny_forLoop_any
    (fun k s' => ∃ h' tk' m' news' i, s' = ⟨h', G, D, tk', O⟩ ∧ h'.IsTupleIter I ax i ∧ h'.IsTuple ax vs.toArray ∧ Fr h₀ env.locals h' m' ∧ News h₀ env.locals h' news' ∧ (∀ p ∈ news', p.1 ≠ I) ∧ i ≤ vs.length ∧ k = vs.length + 1 - i ∧
      TupTurns prog w A (notedBy (model prog w) A env fun e s' => R (.error e) s') h₀ env target body orelse (fun f s' => R (.ok f) s') I ax vs.toArray G D O (vs.drop i) i m' news') ?_ (vs.length + 1)
    ⟨h, tk, m, news, 0, rfl, hit, ht, F, N, hoff, Nat.zero_le _, rfl, by simpa using hT⟩
  rintro k s' ⟨h', tk', m', news', i, rfl, hit', ht', F', N', hoff', hi, rfl, hT'⟩
  have next : ∀ h₁ : Heap, Heap.ExtBut I h' h₁ → Fr h₀ env.locals h₁ m' ∧ News h₀ env.locals h₁ news' := fun h₁ hk₁ =>
    ⟨⟨F'.ns.at' fun o e => hk₁ _ o (Ne.symm hIL) e, fun b o e => hk₁ b o (fun q => by rw [q, hfresh] at e; cases e) (F'.keep b o e), F'.above⟩, fun p hp => ⟨hk₁ _ _ (hoff' p hp) (N' p hp).1, (N' p hp).2⟩⟩
  by_cases hlt : i < vs.length
  · obtain ⟨v, hv⟩ : ∃ v, vs[i]? = some v := ⟨vs[i], by simp [hlt]⟩
    have hd : vs.drop i = v :: vs.drop (i + 1) := by
      rw [List.drop_eq_getElem_cons hlt]
      have : vs[i] = v := by
        have := List.getElem?_eq_getElem hlt
        rw [hv] at this; exact (Option.some.inj this).symm
      rw [this]
    rw [hd] at hT'
    refine wpAny_pyNext_tuple_item (x := v) hit' ht' (by simpa using hv) fun h₁ hit₁ hs₁ => ?_
    obtain ⟨F₁, N₁⟩ := next h₁ hs₁.extBut
    refine letGo_tupleiter (i := i + 1) (t := ax) hit₁ ?_
    obtain ⟨oi, hoi, hc, hdat⟩ := id hit₁
    refine wpAny_mono (hT' h₁ tk' oi F₁ ?_ ⟨hc, by simpa using hdat⟩) (fun _ s₂ h₂ => wpAny_mono h₂ (fun f s₃ h₃ => ?_) fun _ _ e => e) fun _ _ e => e
    · intro p hp
      rcases List.mem_cons.mp hp with rfl | hp
      · exact ⟨hoi, hIL, hfresh⟩
      · exact N₁ p hp
    · cases f with
      | ret v => exact h₃
      | brk => exact h₃
      | next =>
        obtain ⟨⟨h₄, tk₄, m₄, news₄, rfl, F₄, N₄, ho₄, ht₄, hT₄⟩⟩ := h₃
        exact ⟨vs.length + 1 - (i + 1), by omega, h₄, tk₄, m₄, news₄, i + 1, rfl, ⟨oi, (N₄ _ (.head _)).1, hc, hdat⟩, ht₄, F₄, (fun p hp => N₄ p (.tail _ hp)), ho₄, hlt, rfl, hT₄⟩
      | cont =>
        obtain ⟨⟨h₄, tk₄, m₄, news₄, rfl, F₄, N₄, ho₄, ht₄, hT₄⟩⟩ := h₃
        exact ⟨vs.length + 1 - (i + 1), by omega, h₄, tk₄, m₄, news₄, i + 1, rfl, ⟨oi, (N₄ _ (.head _)).1, hc, hdat⟩, ht₄, F₄, (fun p hp => N₄ p (.tail _ hp)), ho₄, hlt, rfl, hT₄⟩
  · have hin : i = vs.length := by omega
    subst hin
    rw [List.drop_length] at hT'
    refine wpAny_pyNext_tuple_end hh hit' ht' (by simp) fun h₁ he₁ => ?_
    obtain ⟨F₁, N₁⟩ := next h₁ he₁
    exact hT' h₁ tk' F₁ N₁
theorem TupTurns.mono {I ax : Addr} {items : Array Value} {G : Array GenState} {D : Drawn} {O : OsState} {E E' : Value → Shared → Prop} {Q Q' : Flow → Shared → Prop} (hE : ∀ e s', E e s' → E' e s') (hQ : ∀ f s', Q f s' → Q' f s') :
    ∀ (vs : List Value) (i : Nat) (m : Str → Option Value) (news : List (Addr × Obj)), TupTurns prog w A E h₀ env target body orelse Q I ax items G D O vs i m news → TupTurns prog w A E' h₀ env target body orelse Q' I ax items G D O vs i m news
  | [], _, _, _, x => fun h tk F N => wpAny_mono (x h tk F N) hQ hE
  | v :: r, i, m, news, x => fun h tk oi F N hi => wpAny_mono (x h tk oi F N hi) (fun _ s₂ h₂ => wpAny_mono h₂ (fun f s₃ h₃ => by
      cases f with
      | ret v => exact hQ _ _ h₃
      | brk => exact hQ _ _ h₃
      | next =>
        obtain ⟨⟨h', tk', m', news', a, b, c, d, e, f⟩⟩ := h₃
        exact ⟨⟨h', tk', m', news', a, b, c, d, e, TupTurns.mono hE hQ r _ _ _ f⟩⟩
      | cont =>
        obtain ⟨⟨h', tk', m', news', a, b, c, d, e, f⟩⟩ := h₃
        exact ⟨⟨h', tk', m', news', a, b, c, d, e, TupTurns.mono hE hQ r _ _ _ f⟩⟩) hE) hE
def TupHere (prog : Program) (w : World) (A : Around) (E : Value → Shared → Prop) (h₀ : Heap) (env : Env) (target : Expr) (body orelse : List Stmt) (Q : Flow → Shared → Prop) (xv : Value) (s₁ : Shared) : Prop :=
  ∃ ax vs m news, xv = .ref ax ∧ s₁.heap.IsTuple ax vs.toArray ∧ Fr h₀ env.locals s₁.heap m ∧ News h₀ env.locals s₁.heap news ∧
      ∀ I, (∀ p ∈ news, p.1 < I) → TupTurns prog w A E h₀ env target body orelse Q I ax vs.toArray s₁.gens s₁.drawn s₁.os vs 0 m news
theorem TupHere.of {ax : Addr} {vs : List Value} {m : Str → Option Value} {news : List (Addr × Obj)} {s₁ : Shared} (F : Fr h₀ env.locals s₁.heap m) (N : News h₀ env.locals s₁.heap news) (ht : s₁.heap.IsTuple ax vs.toArray)
    (h : ∀ I, (∀ p ∈ news, p.1 < I) → TupTurns prog w A E h₀ env target body orelse Q I ax vs.toArray s₁.gens s₁.drawn s₁.os vs 0 m news) :
    TupHere prog w A E h₀ env target body orelse Q (.ref ax) s₁ := ⟨ax, vs, m, news, rfl, ht, F, N, h⟩
theorem for_tup {iter : Expr} {pos : Pos} (hh : A.handled = none)
    (h : wpAny (model prog w) A (eval iter env) (TupHere prog w A E h₀ env target body orelse Q) E s)
    (hs : ∀ x, foldedSetIterable iter env x = pure x := by intro _; rfl)
    (hE : PassesOwn (model prog w) A env E := by passes_own) :
    wpAny (model prog w) A (exec (.For target iter body orelse pos) env) Q E s := by
  refine wpAny_For (wpAny_mono h (fun xv s₁ h₁ => ?_) fun _ _ e => e) hs
  obtain ⟨ax, vs, m, news, rfl, ht, F, N, hT⟩ := h₁
  obtain ⟨hp, g, d, tk, os⟩ := s₁
  refine wpAny_pyIter_tuple ht ?_
  dsimp only at ht F N hT ⊢
  have hlt : ax < hp.objs.size := Heap.lt_size ht.choose_spec.1
  refine tupTurns_run (m := m) (news := news) hh (Nat.ne_of_lt hlt) ⟨_, Heap.get?_push_size _ rfl, rfl, rfl⟩ (by obtain ⟨o, ho, r⟩ := ht; exact ⟨o, Heap.get?_push_of_some _ ho, r⟩) ?_ ?_ ?_ (F.push _) ?_ (TupTurns.mono hE (fun _ _ q => q) _ _ _ _ (hT hp.objs.size ?_))
  · cases q : h₀.get? hp.objs.size with
    | none => rfl
    | some o => exact absurd (Heap.lt_size (F.keep _ _ q)) (Nat.lt_irrefl _)
  · intro q
    obtain ⟨oL, _, _, hL, _⟩ := F.ns
    have := Heap.lt_size hL
    rw [← q] at this
    exact absurd this (Nat.lt_irrefl _)
  · exact fun p hp' => Nat.ne_of_lt (Heap.lt_size (N p hp').1)
  · exact fun p hp' => ⟨Heap.get?_push_of_some _ (N p hp').1, (N p hp').2⟩
  · exact fun p hp' => Heap.lt_size (N p hp').1
end
/-- a def is entered: a part of the ledger is hidden from its ground, the rest becomes ground -/
theorem code_defR {prog : Program} {w : World} {A₀ A : Around} {s : Shared} {base h₀ : Heap} {outer : List Env} {L : Addr} {m mg mb : Str → Option Value} {env : Env} {hid rest : List (Addr × Obj)} {K : Frag} {p : Program} {loose : List Str} {mean : ExcName → Option Value}
    {R : Result → Shared → Prop} {name qual : Str} {params : Arguments} {body : List Stmt} {scope : Scope} {dV kV doc pm cdv ct oc : Value} {an od : Option Addr} {osl : Array (Option Value)} {f : Addr} {args : Args} {binds : List (Str × Value)}
    (B : Below A₀ base outer h₀) (F : Fr h₀ L s.heap m) (X₀ : K.In h₀) (N : News h₀ L s.heap (hid ++ rest)) (T : Top p loose mean mg mb h₀) (hA : A.frames = some (env :: outer)) (hf : env.frame = some L) (hke : env.scope.kind = .function)
    (ho : K.lookup f = some ⟨oc, od, .func (fnOf name qual params body scope dV kV doc pm an cdv ct), osl⟩) (hcd : codeIn K cdv qual = true) (hroom : A.depth < recursionLimit)
    (hbind : BindsTo s (fnOf name qual params body scope dV kV doc pm an cdv ct) args binds) (hloc : ∀ y ∈ binds, scope.names.lookup y.1 = some .local)
    (dj : ∀ p ∈ hid, ∀ q ∈ rest, p.1 ≠ q.1)
    (h : ∀ g L' h₁, Fr h₀ L g m → Fr g L' h₁ (fun y => binds.reverse.lookup y) → News g L' h₁ hid → (∀ p ∈ rest, g.get? p.1 = some p.2) → (∀ p ∈ hid ++ rest, p.1 < L') → Below A base (env :: outer) g → K.In g → Top p loose mean mg mb g → h₀.StaysIn g →
      wpAny (model prog w) (A.deeper (envOf qual scope L' f cdv)) (execs body (envOf qual scope L' f cdv))
        (fun fl s' => LeaveK h₀ L m g (fun r s' => g.StaysIn s'.heap → R r s') (match fl with | .ret v => v | _ => .none) s')
        (fun e s' => wpAny (model prog w) (A.deeper (envOf qual scope L' f cdv)) (leaving (envOf qual scope L' f cdv) e) (fun _ s'' => R (.error e) s'') (fun e' s'' => R (.error e') s'') s')
        { s with heap := h₁, toks := s.toks + binds.length })
    (hco : scope.isCoroutine = false) (hgen : scope.isGenerator = false) (hk : scope.kind = .function)
    (hcell : ∀ x ∈ scope.names, x.2 ≠ .cell) : codeAny (model prog w) A (.call (.ref f) args) R s := by
  have N₁ : News h₀ L s.heap hid := fun q hq => N q (List.mem_append_left _ hq)
  obtain ⟨FG, BG, st, lv⟩ := groundX (R := R) B F N₁ hA hf hke
  refine codeAny_call_def (fd := fnOf name qual params body scope dV kV doc pm an cdv ct) (body := body) (binds := binds) hroom ((X₀.keeps F.keep) _ _ ho) rfl (T.nolimit.keeps F.keep) (codeRec_of (X₀.keeps F.keep) hcd) rfl hbind hcell hloc (fun h₁ hns hk₁ => ?_) hco hgen hk
  refine wpAny_mono (h _ s.heap.objs.size h₁ FG ⟨hns, fun b o e => hk₁ b o (of_hideAll _ e), Nat.le_of_eq (hideAll_size _ _)⟩
    (fun p hp => ⟨hk₁ _ _ (N₁ p hp).1, Nat.ne_of_lt (Heap.lt_size (N₁ p hp).1), hideAll_none _ (List.mem_map_of_mem hp)⟩)
    (fun q hq => hideAll_get _ (N q (List.mem_append_right _ hq)).1 fun z => by
      obtain ⟨p, hp, e⟩ := List.mem_map.mp z
      exact dj p hp q hq e) (fun p hp => Heap.lt_size (N p hp).1) BG (X₀.keeps st) (T.keeps st) st) (fun fl s' hl => ?_) fun _ _ y => y
  obtain ⟨L', m', news', F', N', k⟩ := hl
  exact lv _ _ ⟨L', m', news', F', N', fun a b => k a b F'.keep⟩
end Mine
end
section
open PySem PySem.W PyProof.Rows PySem.Calls PySem.Spec Builtin Builtin.ObjectAttr
set_option Elab.async false
set_option maxRecDepth 100000
set_option maxHeartbeats 4000000
namespace Mine
theorem args_ga3 (a b c : Value) : argsOk "getattr" ⟨[a, b, c], []⟩ := by unfold argsOk; kernel_rfl
section
variable {prog : Program} {w : World} {A : Around} {E : Value → Shared → Prop} {s : Shared} {K : Frag} {x C : Addr} {ox : Obj} {od : Obj} {name : Str} {Q : Value → Shared → Prop} {t : Tok} {dflt : Value}
theorem ga3_open (X : K.In s.heap) (I : InstAt s.heap x ox C (some od)) (hmod : subIn K (.ref C) (.type "module") = some false) (hname : (name != ("get_source" : Str)) = true)
    (h : wpAny (model prog w) A.in1 (getAttrBy? (.ref x) (.str name t)) (fun r s' => Q (r.getD dflt) s') E s) :
    wpAny (model prog w) A (call (.builtin "getattr") [.ref x, .str name t, dflt]) Q E s := by
  refine Calls.call_function_entry KB.kind_getattr KB.plain_getattr KB.entry_getattr (args_ga3 _ _ _) ?_
  unfold Builtin.«getattr»
  refine wpAny_bind (wpAny_of_eq (a := [.ref x, .str name t, dflt]) (by first | rfl | kernel_rfl) ?_)
  dsimp only
  refine wpAny_bind (wpAny_of_eq (a := ()) (by first | rfl | kernel_rfl) ?_)
  refine wpAny_bind ?_
  obtain ⟨hh, g, d, tk, os⟩ := s
  have L0 := I.type (M := model prog w)
  have L1 := looks_subIn (M := model prog w) X hmod
  have L2 : Looks (model prog w) hh (isInstance (.ref x) (.type "module")) false := L0.andThen L1
  refine wpAny_of_eq (a := none) ?_ ?_
  · show (if (name != ("get_source" : Str)) = true then _ else _) = _
    rw [if_pos hname]
  dsimp only
  refine wpAny_bind ?_
  show wpAny _ _ (isInstance (.ref x) (.type "module") >>= _) _ _ _
  refine wpAny_bind (L2.at ?_)
  refine wpAny_pure ?_
  show wpAny _ _ (getAttrBy? _ _ >>= _) _ _ _
  refine wpAny_bind (wpAny_mono h (fun r s' q => ?_) fun _ _ e => e)
  cases r with
  | some v => exact wpAny_pure ⟨_, rfl, q⟩
  | none => exact wpAny_pure ⟨_, rfl, q⟩
theorem gaq_value {v : Value} {Q : Option Value → Shared → Prop} (X : K.In s.heap) (I : InstAt s.heap x ox C (some od)) (hga : findIn K (.ref C) "__getattribute__" = some (some (.builtin "object.__getattribute__")))
    (hf : findObj K C (some od) name = some (.value v)) (hh : handedIn v = true) (h : Q (some v) s) : wpAny (model prog w) A (getAttrBy? (.ref x) (.str name t)) Q E s := by
  obtain ⟨hh', g, d, tk, os⟩ := s
  have L0 := I.type (M := model prog w)
  have L1 := looks_findIn (M := model prog w) X hga
  have L2 := looks_find (M := model prog w) X I hf
  unfold getAttrBy? getAttrBy
  refine wpAny_bind (wpAny_attempt (wpAny_holding (wpAny_bind (L0.at (wpAny_bind (L1.at ?_))))))
  show wpAny _ _ (getAttrEveryday _ _ _) _ _ _
  refine wpAny_bind (wpAny_onRaise (wpAny_runValue (codeAny_builtin F.plainObj_entry_getattr_hooked ?_)))
  refine wpAny_bind (wpAny_pure (wpAny_bind (L0.at (wpAny_bind (L2.at ?_)))))
  refine wpAny_pure ?_
  show wpAny _ _ (handedOut v) _ _ _
  rw [handedOut_of hh]
  exact wpAny_pure (wpAny_pure h)
theorem gaq_miss {Q : Option Value → Shared → Prop} {cd : ClassData} (X : K.In s.heap) (I : InstAt s.heap x ox C (some od)) (hh : A.handled = none) (hga : findIn K (.ref C) "__getattribute__" = some (some (.builtin "object.__getattribute__")))
    (hgt : findIn K (.ref C) "__getattr__" = some none) (hc : clsIn K C = some cd) (hcn : cd.name.cps.foldl (fun k c => k + (Str.utf8Of c).length) 0 ≤ 100)
    (hf : findObj K C (some od) name = some .missing) (hm : ((("'" ++ cd.name.toString ++ "' object has no attribute '" : String) : Str) ++ name ++ ("'" : Str)).length ≤ sizeLine)
    (h : ∀ h' tk, s.heap.StaysIn h' → Q none { s with heap := h', toks := tk }) : wpAny (model prog w) A (getAttrBy? (.ref x) (.str name t)) Q E s := by
  obtain ⟨hh', g, d, tk, os⟩ := s
  have L0 := I.type (M := model prog w)
  have L1 := looks_findIn (M := model prog w) X hga
  have L2 := looks_find (M := model prog w) X I hf
  have L3 := looks_findIn (M := model prog w) X hgt
  have L4 := looks_clsIn (M := model prog w) X hc
  unfold getAttrBy? getAttrBy
  refine wpAny_bind (wpAny_attempt (wpAny_holding (wpAny_bind (L0.at (wpAny_bind (L1.at ?_))))))
  show wpAny _ _ (getAttrEveryday _ _ _) _ _ _
  refine wpAny_bind (wpAny_onRaise (wpAny_runValue (codeAny_builtin F.plainObj_entry_getattr_hooked ?_)))
  refine wpAny_bind (wpAny_pure (wpAny_bind (L0.at (wpAny_bind (L2.at (wpAny_bind (L3.at ?_)))))))
  show wpAny _ _ (noSuchAttribute _ _) _ _ _
  unfold noSuchAttribute typeNameOfCut shownTypeOf
  refine wpAny_bind (wpAny_bind (wpAny_bind (L0.at ?_)))
  refine wpAny_pure ?_
  show wpAny _ _ (typeNameCut 100 (.ref C)) _ _ _
  unfold typeNameCut
  refine wpAny_bind (L4.at ?_)
  dsimp only
  rw [if_pos hcn]
  refine wpAny_pure ?_
  refine wpAny_raiseAttrError hh (fun h' tk' e hx => ?_) hm
  obtain ⟨t', u', he⟩ := hx.there
  refine wpAny_pure ?_
  refine wpAny_bind ?_
  show wpAny _ _ (typeOf (.ref e) >>= fun t => isSubtype t (.type "AttributeError")) _ _ _
  refine wpAny_bind (wpAny_bind (wpAny_loadPart he (wpAny_pure ?_)))
  refine wpAny_of_eq sub_AttributeError ?_
  exact wpAny_pure (h h' tk' hx.keeps)
theorem ga3_value {v : Value} (X : K.In s.heap) (I : InstAt s.heap x ox C (some od)) (hmod : subIn K (.ref C) (.type "module") = some false) (hname : (name != ("get_source" : Str)) = true)
    (hga : findIn K (.ref C) "__getattribute__" = some (some (.builtin "object.__getattribute__")))
    (hf : findObj K C (some od) name = some (.value v)) (hv : handedIn v = true) (h : Q v s) :
    wpAny (model prog w) A (call (.builtin "getattr") [.ref x, .str name t, dflt]) Q E s :=
  ga3_open X I hmod hname (gaq_value X I hga hf hv h)
theorem ga3_miss {cd : ClassData} (X : K.In s.heap) (I : InstAt s.heap x ox C (some od)) (hh : A.handled = none) (hmod : subIn K (.ref C) (.type "module") = some false) (hname : (name != ("get_source" : Str)) = true)
    (hga : findIn K (.ref C) "__getattribute__" = some (some (.builtin "object.__getattribute__")))
    (hgt : findIn K (.ref C) "__getattr__" = some none) (hc : clsIn K C = some cd) (hcn : cd.name.cps.foldl (fun k c => k + (Str.utf8Of c).length) 0 ≤ 100)
    (hf : findObj K C (some od) name = some .missing) (hm : ((("'" ++ cd.name.toString ++ "' object has no attribute '" : String) : Str) ++ name ++ ("'" : Str)).length ≤ sizeLine)
    (h : ∀ h' tk, s.heap.StaysIn h' → Q dflt { s with heap := h', toks := tk }) :
    wpAny (model prog w) A (call (.builtin "getattr") [.ref x, .str name t, dflt]) Q E s :=
  ga3_open X I hmod hname (gaq_miss X I (by exact hh) hga hgt hc hcn hf hm fun h' tk st => h h' tk st)
theorem gaq_slot {v : Value} {p : Addr} {i : Nat} {Q : Option Value → Shared → Prop} (X : K.In s.heap) (I : InstAt s.heap x ox C (some od)) (hga : findIn K (.ref C) "__getattribute__" = some (some (.builtin "object.__getattribute__")))
    (hgt : findIn K (.ref C) "__getattr__" = some none) (hf : findObj K C (some od) name = some (.bind (.builtin "member_descriptor.__get__") (.ref p))) (hp : slotIn K p C = some i)
    (hv : (ox.slots[i]?).join = some v) (hh : handedIn v = true) (h : Q (some v) s) : wpAny (model prog w) A (getAttrBy? (.ref x) (.str name t)) Q E s := by
  obtain ⟨hh', g, d, tk, os⟩ := s
  have L0 := I.type (M := model prog w)
  have L1 := looks_findIn (M := model prog w) X hga
  have L2 := looks_find (M := model prog w) X I hf
  have L3 := looks_findIn (M := model prog w) X hgt
  unfold getAttrBy? getAttrBy
  refine wpAny_bind (wpAny_attempt (wpAny_holding (wpAny_bind (L0.at (wpAny_bind (L1.at ?_))))))
  show wpAny _ _ (getAttrEveryday _ _ _) _ _ _
  refine wpAny_bind (wpAny_onRaise (wpAny_runValue (codeAny_builtin F.plainObj_entry_getattr_hooked ?_)))
  refine wpAny_bind (wpAny_pure (wpAny_bind (L0.at (wpAny_bind (L2.at (wpAny_bind (L3.at ?_)))))))
  show wpAny _ _ (holding [.ref p] (call _ [.ref p, .ref x, .ref C]) >>= ret) _ _ _
  refine wpAny_bind (wpAny_holding (wpAny_call (slot_get (s := ⟨hh', g, d, tk, os⟩) X I hp hv ?_)))
  refine wpAny_pure ?_
  show wpAny _ _ (handedOut v) _ _ _
  rw [handedOut_of hh]
  exact wpAny_pure (wpAny_pure h)
theorem ga3_slot {v : Value} {p : Addr} {i : Nat} (X : K.In s.heap) (I : InstAt s.heap x ox C (some od)) (hmod : subIn K (.ref C) (.type "module") = some false) (hname : (name != ("get_source" : Str)) = true)
    (hga : findIn K (.ref C) "__getattribute__" = some (some (.builtin "object.__getattribute__"))) (hgt : findIn K (.ref C) "__getattr__" = some none)
    (hf : findObj K C (some od) name = some (.bind (.builtin "member_descriptor.__get__") (.ref p))) (hp : slotIn K p C = some i) (hv : (ox.slots[i]?).join = some v) (hh : handedIn v = true) (h : Q v s) :
    wpAny (model prog w) A (call (.builtin "getattr") [.ref x, .str name t, dflt]) Q E s :=
  ga3_open X I hmod hname (gaq_slot X I hga hgt hf hp hv hh h)
theorem ga3_none (hh : A.handled = none) (hname : (name != ("get_source" : Str)) = true) (hmiss : typeLookup (.type "NoneType") name = pure none) (hsz : name.length + 100 ≤ sizeLine)
    (h : ∀ h' tk, s.heap.StaysIn h' → Q dflt { s with heap := h', toks := tk }) :
    wpAny (model prog w) A (call (.builtin "getattr") [.none, .str name t, dflt]) Q E s := by
  refine Calls.call_function_entry KB.kind_getattr KB.plain_getattr KB.entry_getattr (args_ga3 _ _ _) ?_
  unfold Builtin.«getattr»
  refine wpAny_bind (wpAny_of_eq (a := [.none, .str name t, dflt]) (by first | rfl | kernel_rfl) ?_)
  dsimp only
  refine wpAny_bind (wpAny_of_eq (a := ()) (by first | rfl | kernel_rfl) ?_)
  refine wpAny_bind ?_
  refine wpAny_of_eq (a := none) ?_ ?_
  · show (if (name != ("get_source" : Str)) = true then _ else _) = _
    rw [if_pos hname]
  dsimp only
  refine wpAny_bind (wpAny_of_eq (a := 0) rfl ?_)
  show wpAny _ _ (getAttrBy? _ _ >>= _) _ _ _
  unfold getAttrBy?
  refine wpAny_bind (wpAny_bind (wpAny_attempt ?_))
  obtain ⟨hp, g, d, tk, os⟩ := s
  have hT : ∀ s' : Shared, s'.TypeIs (.none) "NoneType" := fun _ => rfl
  have f1 := sub_AttributeError
  have f3 := F.slot_NoneType_getattribute.lookup
  have f4 := F.slot_NoneType_getattribute.bind (.none)
  have f5 := am_none_getattr_none
  unfold getAttrBy
  repeat (any_goals (first | assumption | ((with_reducible show wpAny _ _ (call (Value.builtin "object.__getattribute__") _ _) _ _ _); refine call_meets F.slot_NoneType_getattribute (hT _) F.entry_object_getattribute (F.args_object_getattribute_2 _ _) (meets_getattribute_miss_none name _ hmiss hsz) ⟨hh, fun h' tk' e hx => ?_⟩) | simp only [beq_self_eq_true, if_true, Bool.not_true, bne_self_eq_false, Bool.false_eq_true, if_false] | wp_step))
  obtain ⟨t', u', he⟩ := hx.there
  show wpAny _ _ (getattributeRaised _ _ _ _ _ _ _) _ _ _
  unfold getattributeRaised
  repeat (any_goals (first | assumption | simp only [beq_self_eq_true, if_true, Bool.not_true, bne_self_eq_false, Bool.false_eq_true, if_false] | wp_step))
  exact ⟨_, rfl, h _ _ hx.keeps⟩
end
section
variable {h₀ h h' : Heap} {L x dx C : Addr} {m : Str → Option Value} {news : List (Addr × Obj)} {od : Obj} {sl : Array (Option Value)} {dat : Data}
theorem frS (F : Fr h₀ L h m) (k : h.StaysIn h') : Fr h₀ L h' m := ⟨F.ns.keeps k, fun b o e => k b o (F.keep b o e), F.above⟩
theorem newsS (N : News h₀ L h news) (k : h.StaysIn h') : News h₀ L h' news := fun p hp => ⟨k _ _ (N p hp).1, (N p hp).2⟩
theorem instB (F : Fr h₀ L h m) (h1 : h₀.get? x = some ⟨.ref C, some dx, .plain, sl⟩) (N : News h₀ L h news) (h2 : (dx, od) ∈ news) : InstAt h x ⟨.ref C, some dx, .plain, sl⟩ C (some od) := ⟨F.keep _ _ h1, rfl, rfl, (N _ h2).1⟩
theorem instBB (F : Fr h₀ L h m) (h1 : h₀.get? x = some ⟨.ref C, some dx, .plain, sl⟩) (h2 : h₀.get? dx = some od) : InstAt h x ⟨.ref C, some dx, .plain, sl⟩ C (some od) := ⟨F.keep _ _ h1, rfl, rfl, F.keep _ _ h2⟩
end
theorem findObj_miss {K : Frag} {C : Addr} {od : Obj} {name : Str} (hh : hasDictIn K C = true) (ha : findIn K (.ref C) name = some none) (hc : copiedNames.contains name = false) (hl : lookIn name od = some none) :
    findObj K C (some od) name = some .missing := by
  obtain ⟨cd, hc', hd⟩ := any_some hh
  unfold findObj
  have ho : PySem.W.ownOf cd (some od) name = some none := by unfold PySem.W.ownOf; rw [if_pos hd]; exact hl
  rw [hc', Option.bind_some, ha, Option.bind_some]
  simp only [Option.bind_some, ho, hc, Bool.false_and, Bool.false_eq_true, if_false]
section
variable {prog : Program} {w : World} {A : Around} {E : Value → Shared → Prop} {s : Shared} {K : Frag} {x C L : Addr} {ox : Obj} {name : Str} {Q : Value → Shared → Prop} {t : Tok} {dflt : Value} {h₀ : Heap} {m : Str → Option Value} {news : List (Addr × Obj)} {es : List DictEntry} {n : Nat}
theorem ga3_own {v : Value} {attr : Option Value} (F : Fr h₀ L s.heap m) (X₀ : K.In h₀) (I : InstAt s.heap x ox C (some (dictOf es n))) (hg : plainGet K C name = true) (hh : hasDictIn K C = true)
    (ha : findIn K (.ref C) name = some attr) (hn : noGet K attr = true) (hl : getL name es = some (some v)) (hv : handedIn v = true) (hmod : subIn K (.ref C) (.type "module") = some false) (hname : (name != ("get_source" : Str)) = true) (h : Q v s) :
    wpAny (model prog w) A (call (.builtin "getattr") [.ref x, .str name t, dflt]) Q E s :=
  ga3_value (X₀.keeps F.keep) I hmod hname (plainGet_of hg).1 (findObj_own hh ha hn (by show lookIn name (dictOf es n) = _; rw [lookIn_dict, hl])) hv h
theorem ga3_no {cd : ClassData} (F : Fr h₀ L s.heap m) (X₀ : K.In h₀) (N : News h₀ L s.heap news) (I : InstAt s.heap x ox C (some (dictOf es n))) (hA : A.handled = none) (hg : plainGet K C name = true) (hh : hasDictIn K C = true)
    (ha : findIn K (.ref C) name = some none) (hl : getL name es = some none) (hmod : subIn K (.ref C) (.type "module") = some false) (hname : (name != ("get_source" : Str)) = true)
    (hc : clsIn K C = some cd) (hcn : cd.name.cps.foldl (fun k c => k + (Str.utf8Of c).length) 0 ≤ 100) (hcp : copiedNames.contains name = false)
    (hm : ((("'" ++ cd.name.toString ++ "' object has no attribute '" : String) : Str) ++ name ++ ("'" : Str)).length ≤ sizeLine)
    (h : ∀ h' tk, Fr h₀ L h' m → News h₀ L h' news → Q dflt { s with heap := h', toks := tk }) :
    wpAny (model prog w) A (call (.builtin "getattr") [.ref x, .str name t, dflt]) Q E s :=
  ga3_miss (X₀.keeps F.keep) I hA hmod hname (plainGet_of hg).1 (plainGet_of hg).2 hc hcn (findObj_miss hh ha hcp (by show lookIn name (dictOf es n) = _; rw [lookIn_dict, hl])) hm
    fun h' tk st => h h' tk (frS F st) (newsS N st)
theorem ga3_noneK (F : Fr h₀ L s.heap m) (N : News h₀ L s.heap news) (hA : A.handled = none) (hname : (name != ("get_source" : Str)) = true) (hmiss : typeLookup (.type "NoneType") name = pure none) (hsz : name.length + 100 ≤ sizeLine)
    (h : ∀ h' tk, Fr h₀ L h' m → News h₀ L h' news → Q dflt { s with heap := h', toks := tk }) :
    wpAny (model prog w) A (call (.builtin "getattr") [.none, .str name t, dflt]) Q E s :=
  ga3_none hA hname hmiss hsz fun h' tk st => h h' tk (frS F st) (newsS N st)
end
section
variable {prog : Program} {w : World} {K : Type} [DecidableEq K] {knd : KeyKind prog w K} {A : Around} {E : Value → Shared → Prop} {s : Shared} {h₀ : Heap} {L d : Addr} {news : List (Addr × Obj)} {o : Obj} {kvs : List (K × Value)} {k : K} {key v dflt : Value}
theorem mp_in0 {Q : Value → Shared → Prop} (N : News h₀ L s.heap news) (hp : (d, o) ∈ news) (hd : o.IsDictOf knd kvs) (lo : (d == sysModules) = false) (hkey : knd.is k key = true) (hl : valueAt kvs k = none) (h : Q (.bool false) { s with toks := s.toks + 1 }) :
    wpAny (model prog w) A (compareOp .In key (.ref d)) Q E s := kda_in N hp hd lo hkey false (by rw [hl]; rfl) h
theorem mp_in1 {Q : Value → Shared → Prop} (N : News h₀ L s.heap news) (hp : (d, o) ∈ news) (hd : o.IsDictOf knd kvs) (lo : (d == sysModules) = false) (hkey : knd.is k key = true) (hl : valueAt kvs k = some v) (h : Q (.bool true) { s with toks := s.toks + 1 }) :
    wpAny (model prog w) A (compareOp .In key (.ref d)) Q E s := kda_in N hp hd lo hkey true (by rw [hl]; rfl) h
theorem stored_new {kvs : List (K × Value)} {k : K} {v : Value} (h : valueAt kvs k = none) : stored kvs k v = kvs ++ [(k, v)] := by
  unfold stored
  have : kvs.any (fun kv => kv.1 = k) = false := by
    cases q : kvs.any (fun kv => decide (kv.1 = k)) with
    | false => rfl
    | true =>
      obtain ⟨x, hx, hk⟩ := List.any_eq_true.mp q
      unfold valueAt at h
      have := (List.find?_eq_none.mp (Option.map_eq_none_iff.mp h)) x hx
      exact absurd hk this
  rw [if_neg (by rw [this]; decide)]
theorem stored_length {kvs : List (K × Value)} {k : K} {v : Value} : (stored kvs k v).length ≤ kvs.length + 1 := by
  unfold stored
  split
  · rw [List.length_map]; omega
  · rw [List.length_append]; simp
end
section
variable {h₀ g h h' : Heap} {L L' : Addr} {hid rest new : List (Addr × Obj)}
theorem news_join (N : News h₀ L h (hid ++ rest)) (R : ∀ p ∈ rest, g.get? p.1 = some p.2) (k : g.StaysIn h') (kN : News h₀ L h' new) : News h₀ L h' (new ++ rest) := fun p hp => by
  rcases List.mem_append.mp hp with hp | hp
  · exact kN p hp
  · exact ⟨k _ _ (R p hp), (N p (List.mem_append_right _ hp)).2⟩
theorem fresh_ne {a : Addr} {o : Obj} (R : ∀ p ∈ rest, g.get? p.1 = some p.2) (N : News g L' h' new) (hm : (a, o) ∈ new) : ∀ q ∈ rest, @Ne Nat q.1 a := fun q hq e => by
  have h1 := R q hq
  have h2 := (N _ hm).2.2
  rw [e] at h1
  exact absurd (h1.symm.trans h2) (by simp)
/-- what stands at an address: ground, or of the ledger -/
def Kn (h₀ : Heap) (rest : List (Addr × Obj)) (a : Addr) (o : Obj) : Prop := h₀.get? a = some o ∨ (a, o) ∈ rest
theorem Kn.at {a : Addr} {o : Obj} (k : Kn h₀ rest a o) (st : h₀.StaysIn g) (R : ∀ p ∈ rest, g.get? p.1 = some p.2) : g.get? a = some o := k.elim (st _ _) (R _)
theorem Kn.mono {a : Addr} {o : Obj} {rest' : List (Addr × Obj)} (k : Kn h₀ rest a o) (hs : ∀ p ∈ rest, p ∈ rest') : Kn h₀ rest' a o := k.imp id (hs _)
end
/-- a statement list cut behind its first statement -/
theorem cut_seq {M : Model} {A : Around} {E : Value → Shared → Prop} {s : Shared} {env : Env} {st : Stmt} {rest : List Stmt} {Q : Flow → Shared → Prop} (P : Shared → Prop)
    (tail : ∀ s', P s' → wpAny M A (execs rest env) Q E s') (head : wpAny M A (exec st env) (fun fl s' => fl = .next ∧ P s') E s) : wpAny M A (execs (st :: rest) env) Q E s := by
  refine wpAny_execs_cons (wpAny_mono head (fun fl s' h => ?_) fun _ _ e => e)
  obtain ⟨rfl, hp⟩ := h
  exact tail s' hp
abbrev litObj (dx : Addr) (lit : Value) (it : Addr) (nm : Value) : Obj := { cls := .ref 367, dict := some dx, data := .plain, slots := #[some lit, some (.ref it), some nm] }
abbrev seqObj (dx : Addr) (ms : Addr) (it : Addr) (nm : Value) : Obj := { cls := .ref 425, dict := some dx, data := .plain, slots := #[some (.ref ms), some (.ref it), some nm] }
abbrev oneObj (dx : Addr) (ms : Addr) (it : Addr) (nm : Value) : Obj := { cls := .ref 451, dict := some dx, data := .plain, slots := #[some (.ref ms), some (.ref it), some nm] }
abbrev errObj (dx at_ : Addr) : Obj := { cls := .ref 87, dict := some dx, data := .fields #[.ref at_, .none, .none, .none, .bool false, .none], slots := #[] }
abbrev nodeObj (dn lc : Addr) (e : Addr) (text : Value) (st en : Value) : Obj := { cls := .ref 243, dict := some dn, data := .plain, slots := #[some (.ref lc), some en, some (.ref e), some text, some st] }
abbrev tupObj (its : Array Value) : Obj := { cls := .type "tuple", data := .seq its }
end Mine
end
section
open PySem PySem.W PyProof.Rows PySem.Calls PySem.Spec Builtin Builtin.ObjectAttr
set_option Elab.async false
set_option maxRecDepth 100000
set_option maxHeartbeats 400000
namespace Mine
section
variable {prog : Program} {w : World} {A : Around} {R : Result → Shared → Prop} {h : Heap} {g : Array GenState} {d : Drawn} {t : Nat} {os : OsState}
variable {nm q : Str} {C N : Addr} {bs bm bmB : List Value} {hdct : Bool} {sn : List Str} {sub : List Value} {ab : Bool} {col : Option Bool} {dd : Option Addr} {k0 k1 k2 k3 k5 : Option Value} {K : Frag}
theorem exc_new {rest : List Value} (hC : h.get? C = some (excClassObj nm q C N bs bm hdct sn sub ab col dd k0 k1 k2 k3 k5 "Exception.__new__"))
    (hcB : (Value.ref C :: bm).contains (.type "Exception") = true) (hcA : (Value.ref C :: bm).contains (.type "AttributeError") = false) (hcN : (Value.ref C :: bm).contains (.type "NameError") = false)
    (hrest : rest.length ≤ sizeLine)
    (hq : R (.ok (.ret (.ref (h.objs.size + 1)))) ⟨(h.push { cls := .type "tuple", data := .seq rest.toArray }).push { cls := .ref C, data := .fields #[.ref h.objs.size, .none, .none, .none, .bool false, .none] }, g, d, t, os⟩) :
    codeAny (model prog w) A (.call (.builtin "Exception.__new__") ⟨.ref C :: rest, []⟩) R ⟨h, g, d, t, os⟩ := by
  have F := PySem.F.excBase_Exception
  have hends := F.ends
  have hstar := F.noStar
  refine codeAny_call_builtin_code (Code.quiet_builtin _ F.quiet) ?_
  simp only [checkBuiltinCall, F.newKind, F.newSplit, F.newRow]
  repeat (first | (with_reducible refine wpAny_loadPart_at hC ?_) | ((with_reducible refine wpAny_isSubtype_exc hC ?_); rw [hcB]) | (with_reducible refine wpAny_staticBase_exc hC ?_) | (with_reducible refine wpAny_madeBy_exc hC ?_) | simp only [beq_self_eq_true, if_true, Bool.not_true, bne_self_eq_false, Bool.false_eq_true, if_false] | wp_step)
  refine codeAny_builtinAt F.entry ?_
  unfold Builtin.«BaseException.__new__»
  refine _root_.PySem.wpAt_bind ?_
  show _root_.PySem.wpAt _ _ _ (stack >>= _) _ _ _
  refine _root_.PySem.wpAt_bind (_root_.PySem.wpAt_stack fun p below => _root_.PySem.wpAt_of_wpAny ?_)
  wp_walk
  refine _root_.PySem.wpAt_of_wpAny ?_
  rw [F.owner]
  repeat (first | with_reducible refine wpAny_madeHere_exc F.canon hC ?_ | with_reducible refine wpAny_loadPart_at hC ?_ | (with_reducible refine wpAny_isSubtype_exc hC ?_; first | rw [hcB] | rw [hcA] | rw [hcN]) | simp only [beq_self_eq_true, if_true, Bool.not_true, bne_self_eq_false, Bool.false_eq_true, if_false] | wp_step)
  show R _ _
  rw [Heap.size_push]
  exact hq
theorem exc_make {rest : List Value} {fI : Addr} (X : K.In h) (hC : h.get? C = some (excClassObj nm q C N bs bm hdct sn sub ab col dd k0 k1 k2 k3 k5 "Exception.__new__"))
    (hcB : (Value.ref C :: bm).contains (.type "Exception") = true) (hcA : (Value.ref C :: bm).contains (.type "AttributeError") = false) (hcN : (Value.ref C :: bm).contains (.type "NameError") = false)
    (hcall : specialIn K (.ref C) "__call__" = some (some (.builtin "type.__call__"))) (htyp : instIn K (.ref C) (.type "type") = some true) (hi : findIn K (.ref C) "__init__" = some (some (.ref fI)))
    (hf : typeIn K (.ref fI) = some (.type "function")) (hrest : rest.length ≤ sizeLine)
    (hq : codeAny (model prog w) (A.under (.builtin "type.__call__" ⟨.ref C :: rest, []⟩)) (.call (.ref fI) ⟨.ref (h.objs.size + 1) :: rest, []⟩) (InitBack (h.objs.size + 1) R)
      ⟨(h.push { cls := .type "tuple", data := .seq rest.toArray }).push { cls := .ref C, data := .fields #[.ref h.objs.size, .none, .none, .none, .bool false, .none] }, g, d, t, os⟩) :
    codeAny (model prog w) A (.call (.ref C) ⟨rest, []⟩) R ⟨h, g, d, t, os⟩ := by
  have call := looks_specialIn (M := model prog w) X hcall
  have typ := looks_instIn (M := model prog w) X htyp
  refine codeAny_of_tree ?_
  show wpAny _ _ (callAny (.ref C) _) _ _ _
  refine nd_load hC ?_
  show wpAny _ _ (callAny.viaDunder (.ref C) _) _ _ _
  unfold callAny.viaDunder
  refine wpAny_bind (call.at ?_)
  dsimp only
  rw [tc_bind]
  refine wpAny_bind (wpAny_pure (wpAny_bind (wpAny_pure ?_)))
  refine wpAny_pure (a := Fin.again (.call (.builtin "type.__call__") ⟨.ref C :: rest, []⟩)) (And.intro rfl ?_)
  refine codeAny_call_builtin_at (Code.quiet_builtin _ (by decide +kernel)) entry_typeCall ?_
  refine @check_slot (model prog w) _ _ _ "type.__call__" "type" "__call__" (.ref C) rest [] _ tc_kind tc_split ?_ ?_ ?_
  · exact typ
  · exact tc_args _ _ _
  unfold Builtin.«type.__call__»
  have made : Looks (model prog w) h (Bind.madeBy (.ref C)) (some "Exception.__new__") := fun A' Q' E' s' k' q' => by
    obtain ⟨h2, g2, d2, t2, os2⟩ := s'
    exact wpAny_madeBy_exc (k' _ _ hC) q'
  have hm : Looks (model prog w) h (mroOf (.ref C)) (.ref C :: bm) := ((Looks.ld (part := none) hC).andThen .now).andThen .now
  repeat (first | simp only [List.isEmpty_cons, Bool.false_eq_true, if_false] | with_reducible refine wpAny_call ?_ | lk)
  refine exc_new hC hcB hcA hcN hrest ?_
  have k : ∀ b o, h.get? b = some o → ((h.push { cls := .type "tuple", data := .seq rest.toArray }).push { cls := .ref C, data := .fields #[.ref h.objs.size, .none, .none, .none, .bool false, .none] }).get? b = some o :=
    fun b o e => Heap.get?_push_of_some _ (Heap.get?_push_of_some _ e)
  have hx : ((h.push { cls := .type "tuple", data := .seq rest.toArray }).push { cls := .ref C, data := .fields #[.ref h.objs.size, .none, .none, .none, .bool false, .none] }).get? (h.objs.size + 1) =
    some { cls := .ref C, data := .fields #[.ref h.objs.size, .none, .none, .none, .bool false, .none] } := by heap_get
  have t1 : Looks (model prog w) ((h.push { cls := .type "tuple", data := .seq rest.toArray }).push { cls := .ref C, data := .fields #[.ref h.objs.size, .none, .none, .none, .bool false, .none] }) (typeOf (.ref (h.objs.size + 1))) (.ref C) := (Looks.ld hx).andThen .now
  have s1 : Looks (model prog w) ((h.push { cls := .type "tuple", data := .seq rest.toArray }).push { cls := .ref C, data := .fields #[.ref h.objs.size, .none, .none, .none, .bool false, .none] }) (isSubtype (.ref C) (.ref C)) true := fun A' Q' E' s' k' q' => by
    obtain ⟨h2, g2, d2, t2, os2⟩ := s'
    refine wpAny_isSubtype_exc (k' _ _ (k _ _ hC)) ?_
    rw [show (Value.ref C :: bm).contains (.ref C) = true from by simp]
    exact q'
  have i1 := (looks_findIn (M := model prog w) X hi).keeps k
  have b1 := (bind_fn (M := model prog w) X (.ref (h.objs.size + 1)) hf).keeps k
  unfold isInstance callSpecial? specialOf
  repeat (first | with_reducible refine wpAny_call ?_ | lk)
  refine codeAny_mono hq fun r s' z => ?_
  rcases r with e | (v | _ | _ | _) <;> first | exact z | exact z.elim | skip
  obtain ⟨rfl, z⟩ := z
  exact wpAny_pure (wpAny_pure z)
end
section
variable {prog : Program} {w : World} {A : Around} {E : Value → Shared → Prop} {s : Shared} {K : Frag} {x C L dx : Addr} {ox od od' : Obj} {name : Str} {h₀ : Heap} {m : Str → Option Value} {news news' : List (Addr × Obj)} {es es' : List DictEntry} {n n' : Nat} {v : Value} {cd : ClassData}
/-- an attribute of an own exception, out of its dict -/
theorem exc_get {expr : Bool} {Q : Value → Shared → Prop} (X : K.In s.heap) (I : InstAt s.heap x ox C (some od)) (hga : findIn K (.ref C) "__getattribute__" = some (some (.builtin "BaseException.__getattribute__")))
    (hgt : findIn K (.ref C) "__getattr__" = some none) (hb : subIn K (.ref C) (.type "BaseException") = some true)
    (hf : findObj K C (some od) name = some (.value v)) (hh : handedIn v = true) (h : Q v { s with toks := s.toks + 1 }) : wpAny (model prog w) A (getAttr (.ref x) name expr) Q E s := by
  obtain ⟨hh', g, d, tk, os⟩ := s
  have L0 := I.type (M := model prog w)
  have L1 := looks_findIn (M := model prog w) X hga
  have L2 := looks_find (M := model prog w) X I hf
  have L3 := looks_findIn (M := model prog w) X hgt
  have L4 := looks_subIn (M := model prog w) X hb
  have f3 := PySem.F.attr_Exception.ga.bind (.ref x)
  have hx2 : (Value.builtin "BaseException.__getattribute__" == Value.builtin "object.__getattribute__") = false := by decide +kernel
  have hx1 : (onTheHeap (Value.ref C) && Value.builtin "BaseException.__getattribute__" == Value.builtin "object.__getattribute__") = false := by rw [hx2]; rfl
  have hx0 : (expr && onTheHeap (Value.builtin "BaseException.__getattribute__")) = false := by cases expr <;> rfl
  unfold getAttr getAttrBy
  refine wpAny_bind (wpAny_mkText (wpAny_holding (wpAny_bind (L0.at (wpAny_bind (L1.at ?_))))))
  show wpAny _ _ (if (onTheHeap (Value.ref C) && Value.builtin "BaseException.__getattribute__" == Value.builtin "object.__getattribute__") = true then _ else _) _ _ _
  rw [hx1, if_neg (by decide)]
  unfold getAttrByItsOwn
  show wpAny _ _ (typeLookup (.ref C) "__getattr__" >>= _) _ _ _
  refine wpAny_bind (L3.at ?_)
  refine wpAny_bind (wpAny_attempt (wpAny_holding ?_))
  unfold callGetattribute
  rw [hx0, if_neg (by decide)]
  unfold boundAndCalled
  rw [f3]
  refine wpAny_bind (wpAny_pure ?_)
  have hk : builtinKind "BaseException.__getattribute__" = some .slot := by decide +kernel
  have hsp : splitId "BaseException.__getattribute__" = some ("BaseException", "__getattribute__") := by decide +kernel
  have sub : Looks (model prog w) hh' (isInstance (.ref x) (.type "BaseException")) true := L0.andThen L4
  refine wpAny_call ?_
  refine codeAny_call_builtin PySem.F.attr_Exception.ga.plain PySem.F.entry_bexc_ga ?_
  refine @check_slot (model prog w) _ _ ⟨hh', g, d, tk + 1, os⟩ "BaseException.__getattribute__" "BaseException" "__getattribute__" (.ref x) [.str name tk] [] _ hk hsp sub (PySem.F.args_bexc_ga (.ref x) (.str name tk)) ?_
  unfold Builtin.«object.__getattribute__»
  refine wpAny_bind (wpAny_of_eq (a := (.ref x, [.str name tk])) (by first | rfl | kernel_rfl) ?_)
  refine wpAny_bind (wpAny_of_eq (a := name) (by first | rfl | kernel_rfl) ?_)
  refine wpAny_bind (L0.at (wpAny_bind (L2.at ?_)))
  refine wpAny_pure ?_
  show wpAny _ _ (handedOut v) _ _ _
  rw [handedOut_of hh]
  exact wpAny_pure h
theorem exc_getK {expr : Bool} {Q : Value → Shared → Prop} {attr : Option Value} (F : Fr h₀ L s.heap m) (X₀ : K.In h₀) (I : InstAt s.heap x ox C (some (dictOf es n))) (hga : findIn K (.ref C) "__getattribute__" = some (some (.builtin "BaseException.__getattribute__")))
    (hgt : findIn K (.ref C) "__getattr__" = some none) (hb : subIn K (.ref C) (.type "BaseException") = some true) (hh : hasDictIn K C = true)
    (ha : findIn K (.ref C) name = some attr) (hn : noGet K attr = true) (hl : getL name es = some (some v)) (hv : handedIn v = true) (h : Q v { s with toks := s.toks + 1 }) : wpAny (model prog w) A (getAttr (.ref x) name expr) Q E s :=
  exc_get (X₀.keeps F.keep) I hga hgt hb (findObj_own hh ha hn (by show lookIn name (dictOf es n) = _; rw [lookIn_dict, hl])) hv h
theorem osaE_open {R : Result → Shared → Prop} {od : Option Obj} {tk : Tok} (X : K.In s.heap) (I : InstAt s.heap x ox C od) (hc : clsIn K C = some cd) (hpass : refuseLoop (.ref x) "__setattr__" cd.mro = pure ())
    (ho : mroIn K C (.type "object") = some true) (ht : takerIn K C name = some none)
    (h : ∀ b, wpAny (model prog w) A.in1 (storeInOwnDict (.ref x) (.ref C) (.str name tk) name v b)
      (fun fin s' => match fin with | .done f => R (.ok f) s' | .again c' => c'.quiet = true ∧ codeAny (model prog w) A c' R s') (fun e s' => R (.error e) s') s) :
    codeAny (model prog w) A (.call (.builtin "object.__setattr__") ⟨[.ref x, .str name tk, v], []⟩) R s := by
  have SF := PySem.F.store_object
  have sub : Looks (model prog w) s.heap (isInstance (.ref x) (.type "object")) true := I.type.andThen (looks_mroIn X ho)
  refine codeAny_call_builtin SF.slot.plain SF.entry (@check_slot (model prog w) _ _ s "object.__setattr__" "object" "__setattr__" (.ref x) [.str name tk, v] [] _ SF.kind SF.split sub (SF.args (.ref x) (.str name tk) v) ?_)
  obtain ⟨attr, ha, hr⟩ := Option.bind_eq_some_iff.mp ht
  have hm : Looks (model prog w) s.heap (mroOf (.ref C)) cd.mro := (looks_clsIn X hc).andThen .now
  have L3 : Looks (model prog w) s.heap (storeTaker? attr) none := by
    cases attr with
    | none => exact .now
    | some a =>
      obtain ⟨b, hb, hb2⟩ := Option.map_eq_some_iff.mp hr
      refine (looks_takesIn X hb).andThen ?_
      cases b
      · exact .now
      · cases hb2
  rw [osa_eq, refuse_eq]
  refine wpAny_bind (wpAny_bind (I.type.here (wpAny_bind (hm.here ?_))))
  rw [hpass]
  refine wpAny_pure (wpAny_bind (I.type.here (wpAny_bind ((looks_findIn X ha).here (wpAny_bind (L3.here ?_))))))
  exact h _
theorem nsSet_dict {M : Model} {A : Around} {E : Value → Shared → Prop} {s : Shared} {Q : Unit → Shared → Prop} (D : s.heap.get? dx = some (dictOf es n)) (hl : (getL name es).isSome = true)
    (e : Obj.putName name (PyData.keyHash M.w.params name) (.str name s.toks) v (dictOf es n) = dictOf es' n') (hz : es'.length ≤ 1000)
    (h : ∀ h', h' = s.heap.update dx (Obj.putName name (PyData.keyHash M.w.params name) (.str name s.toks) v) → h'.get? dx = some (dictOf es' n') → Q () { s with heap := h', toks := s.toks + 1 }) :
    wpAny M A (nsSet dx name v) Q E s := by
  have D' : (s.heap.update dx (Obj.putName name (PyData.keyHash M.w.params name) (.str name s.toks) v)).get? dx = some (dictOf es' n') := e ▸ Heap.get?_update_self _ D (by rw [e]; rfl)
  unfold nsSet
  refine wpAny_bind (wpAny_bind (wpAny_askSetting (wpAny_pure (wpAny_bind (wpAny_mkText (wpAny_bind (wpAny_loadPart D ?_)))))))
  dsimp only
  have c : (!es.toArray.any (·.key.isStr name) && es.toArray.any (·.refKey)) = false := by
    rw [← Array.any_toList, ← Array.any_toList]
    unfold getL at hl
    split at hl
    · rename_i en he
      rw [List.any_eq_true.mpr ⟨en, List.mem_of_find?_eq_some he, List.find?_some he⟩]; rfl
    · split at hl
      · cases hl
      · rename_i z; rw [Bool.not_eq_true] at z; rw [z, Bool.and_false]
  rw [aRefKeyMayBeTheName_at, c]
  refine wpAny_updatePart D ?_
  exact h _ rfl D'
theorem exc_setK {Q : Unit → Shared → Prop} (F : Fr h₀ L s.heap m) (X₀ : K.In h₀) (N : News h₀ L s.heap news) (I : InstAt s.heap x ox C (some (dictOf es n))) (hd : ox.dict = some dx)
    (hs : findIn K (.ref C) "__setattr__" = some (some (.builtin "object.__setattr__"))) (hc : clsIn K C = some cd) (hpass : refuseLoop (.ref x) "__setattr__" cd.mro = pure ()) (hdd : cd.hasDict = true)
    (ho : mroIn K C (.type "object") = some true) (ht : takerIn K C name = some none) (hl : (getL name es).isSome = true)
    (e : (putL name (PyData.keyHash w.params name) (.str name (s.toks + 1)) v es, putN name es n) = (es', n')) (U : Upd dx (dictOf es n) (dictOf es' n') news news') (hz : es'.length ≤ 1000)
    (h : ∀ h', Fr h₀ L h' m → News h₀ L h' news' → Q () { s with heap := h', toks := s.toks + 2 }) :
    wpAny (model prog w) A (setAttr (.ref x) name v) Q E s := by
  obtain ⟨hh, g, d, tk, os⟩ := s
  obtain ⟨pre, post, rfl, rfl, h1, h2⟩ := U.split
  obtain ⟨e1, e2⟩ := Prod.mk.inj e
  have X := X₀.keeps F.keep
  refine set_plain X I hs (osaE_open (s := ⟨hh, g, d, tk + 1, os⟩) X I hc hpass ho ht fun b => ?_)
  have hpn : Obj.putName name (PyData.keyHash w.params name) (.str name (tk + 1)) v (dictOf es n) = dictOf es' n' := by rw [putName_dict, e1, e2]
  obtain ⟨U1, U2⟩ := news_upd (f := Obj.putName name (PyData.keyHash w.params name) (.str name (tk + 1)) v) F N h1 h2 hpn rfl
  have D := (N (dx, dictOf es n) (by simp)).1
  obtain ⟨hx, hcl, hn, -⟩ := I
  obtain ⟨oc, odi, oda, osl⟩ := ox
  dsimp only at hcl hd
  subst hcl hd
  refine wpAny_bind (wpAny_pure (wpAny_bind (wpAny_bind (wpAny_loadPart hx (wpAny_bind ((looks_clsIn X hc).at ?_))))))
  rw [hdd]
  refine wpAny_pure (a := some dx) (wpAny_bind (wpAny_pure (wpAny_bind ?_)))
  refine nsSet_dict (s := ⟨hh, g, d, tk + 1, os⟩) (M := model prog w) D hl hpn hz fun h' hh' D' => ?_
  refine wpAny_bind (wpAny_lookBehind D' (pastItsLine_dict (by rw [List.size_toArray, sizeLine_eq]; omega)) ?_)
  subst hh'
  exact wpAny_pure (h _ U1 U2)
theorem exc_set0K {Q : Unit → Shared → Prop} {vs : Array Value} {sl : Array (Option Value)} (F : Fr h₀ L s.heap m) (X₀ : K.In h₀) (N : News h₀ L s.heap news)
    (hs : findIn K (.ref C) "__setattr__" = some (some (.builtin "object.__setattr__"))) (hc : clsIn K C = some cd) (hpass : refuseLoop (.ref x) "__setattr__" cd.mro = pure ()) (hdd : cd.hasDict = true)
    (ho : mroIn K C (.type "object") = some true) (ht : takerIn K C name = some none)
    {news'' : Addr → List (Addr × Obj)} (U : ∀ d, Upd x ⟨.ref C, none, .fields vs, sl⟩ ⟨.ref C, some d, .fields vs, sl⟩ news (news'' d))
    (h : ∀ d h', Fr h₀ L h' m → News h₀ L h' ((d, dictOf [⟨PyData.keyHash w.params name, .str name (s.toks + 1), v⟩] 1) :: news'' d) → (∀ p ∈ news, p.1 < d) → Q () { s with heap := h', toks := s.toks + 2 }) :
    wpAny (model prog w) A (setAttr (.ref x) name v) Q E s := by
  obtain ⟨hh, g, d, tk, os⟩ := s
  have X : K.In hh := X₀.keeps F.keep
  obtain ⟨pre, post, rfl, hn'', h1, h2⟩ := (U hh.objs.size).split
  have hx := (N (x, ⟨.ref C, none, .fields vs, sl⟩) (by simp)).1
  have I : InstAt hh x ⟨.ref C, none, .fields vs, sl⟩ C none := ⟨hx, rfl, rfl, trivial⟩
  refine set_plain X I hs (osaE_open (s := ⟨hh, g, d, tk + 1, os⟩) X I hc hpass ho ht fun b => ?_)
  refine wpAny_bind (wpAny_pure (wpAny_bind (wpAny_bind (wpAny_loadPart hx (wpAny_bind ((looks_clsIn X hc).at ?_))))))
  rw [hdd]
  dsimp only [Bool.not_true, Bool.false_eq_true, if_false]
  show wpAny _ _ (alloc emptyDict >>= _) _ _ _
  refine wpAny_bind (wpAny_alloc ?_)
  dsimp only
  have F1 := F.push emptyDict
  have N1 := N.push F emptyDict
  have hx1 := (N1 (x, ⟨.ref C, none, .fields vs, sl⟩) (by simp)).1
  refine wpAny_bind (wpAny_update hx1 ?_)
  have hxd : x ≠ hh.objs.size := Nat.ne_of_lt (Heap.lt_size hx)
  have N1' : News h₀ L (hh.push emptyDict) (((hh.objs.size, emptyDict) :: pre) ++ (x, ⟨.ref C, none, .fields vs, sl⟩) :: post) := N1
  obtain ⟨F2, N2⟩ := news_upd (f := fun o => { cls := o.cls, dict := some hh.objs.size, data := o.data, slots := o.slots }) F1 N1' (fun p hp => by
    rcases List.mem_cons.mp hp with rfl | hp
    · exact Ne.symm hxd
    · exact h1 p hp) h2 (e := rfl) rfl
  have D2 := (N2 (hh.objs.size, emptyDict) (by simp)).1
  have hsz : ∀ p ∈ pre ++ (x, (⟨.ref C, none, .fields vs, sl⟩ : Obj)) :: post, p.1 < hh.objs.size := fun p hp => Heap.lt_size (N p hp).1
  refine wpAny_pure ?_
  refine wpAny_bind (wpAny_pure (wpAny_bind ?_))
  refine nsSet_dict (s := ⟨_, g, d, tk + 1, os⟩) (M := model prog w) (es := []) (n := 0) (es' := [⟨PyData.keyHash w.params name, .str name (tk + 1), v⟩]) (n' := 1) D2 rfl (by rw [putName_dict]; rfl) (by show 1 ≤ 1000; decide) fun h' hh' D' => ?_
  refine wpAny_bind (wpAny_lookBehind D' (pastItsLine_dict (by rw [List.size_toArray, sizeLine_eq]; show 1 ≤ 16777217; decide)) ?_)
  have N2' : News h₀ L (Heap.update (hh.push emptyDict) x fun o => { cls := o.cls, dict := some hh.objs.size, data := o.data, slots := o.slots }) ([] ++ (hh.objs.size, emptyDict) :: (pre ++ (x, ⟨.ref C, some hh.objs.size, .fields vs, sl⟩) :: post)) := N2
  obtain ⟨F3, N3⟩ := news_upd (f := Obj.putName name (PyData.keyHash w.params name) (.str name (tk + 1)) v) F2 N2' (fun _ h => nomatch h) (fun p hp => by
    rcases List.mem_append.mp hp with hp | hp
    · exact Nat.ne_of_lt (hsz p (List.mem_append_left _ hp))
    · rcases List.mem_cons.mp hp with rfl | hp
      · exact hxd
      · exact Nat.ne_of_lt (hsz p (List.mem_append_right _ (.tail _ hp)))) (o' := dictOf [⟨PyData.keyHash w.params name, .str name (tk + 1), v⟩] 1) (by
        show Obj.putName _ _ _ _ (dictOf [] 0) = _
        rw [putName_dict]; rfl) rfl
  subst hh'
  refine wpAny_pure (h hh.objs.size _ F3 ?_ hsz)
  rw [hn'']
  exact N3
theorem exc_callK {nm q : Str} {N' : Addr} {bs bm : List Value} {hdct : Bool} {sn : List Str} {sub : List Value} {ab : Bool} {col : Option Bool} {dd : Option Addr} {k0 k1 k2 k3 k5 : Option Value} {Q : Value → Shared → Prop}
    {rest : List Value} {fI : Addr} (F : Fr h₀ L s.heap m) (X₀ : K.In h₀) (N : News h₀ L s.heap news) (hC : K.lookup C = some (excClassObj nm q C N' bs bm hdct sn sub ab col dd k0 k1 k2 k3 k5 "Exception.__new__"))
    (hcB : (Value.ref C :: bm).contains (.type "Exception") = true) (hcA : (Value.ref C :: bm).contains (.type "AttributeError") = false) (hcN : (Value.ref C :: bm).contains (.type "NameError") = false)
    (hcall : specialIn K (.ref C) "__call__" = some (some (.builtin "type.__call__"))) (htyp : instIn K (.ref C) (.type "type") = some true) (hi : findIn K (.ref C) "__init__" = some (some (.ref fI)))
    (hf : typeIn K (.ref fI) = some (.type "function")) (hrest : rest.length ≤ 1000)
    (h : ∀ x t h', Fr h₀ L h' m → News h₀ L h' ((x, ({ cls := .ref C, data := .fields #[.ref t, .none, .none, .none, .bool false, .none] } : Obj)) :: (t, ({ cls := .type "tuple", data := .seq rest.toArray } : Obj)) :: news) → (∀ p ∈ news, p.1 < t) → t < x →
      codeAny (model prog w) (A.under (.builtin "type.__call__" ⟨.ref C :: rest, []⟩)) (.call (.ref fI) ⟨.ref x :: rest, []⟩) (InitBack x fun r s' => match r with | .ok (.ret v) => Q v s' | .ok _ => False | .error e => E e s') { s with heap := h' }) :
    wpAny (model prog w) A (call (.ref C) rest) Q E s := by
  obtain ⟨hh, g, d, tk, os⟩ := s
  have X : K.In hh := X₀.keeps F.keep
  refine wpAny_call (exc_make X (X _ _ hC) hcB hcA hcN hcall htyp hi hf (by rw [sizeLine_eq]; omega) ?_)
  have F1 := F.push ({ cls := .type "tuple", data := .seq rest.toArray } : Obj)
  have N1 := N.push F ({ cls := .type "tuple", data := .seq rest.toArray } : Obj)
  have N2 := N1.push F1 ({ cls := .ref C, data := .fields #[.ref hh.objs.size, .none, .none, .none, .bool false, .none] } : Obj)
  rw [Heap.size_push] at N2
  exact h _ hh.objs.size _ (F1.push _) N2 (fun p hp => Heap.lt_size (N p hp).1) (Nat.lt_succ_self _)
end
section
variable {h₀ h : Heap} {L x dx C : Addr} {m : Str → Option Value} {news : List (Addr × Obj)} {od : Obj} {sl : Array (Option Value)} {vs : Array Value}
theorem instE (N : News h₀ L h news) (h1 : (x, (⟨.ref C, some dx, .fields vs, sl⟩ : Obj)) ∈ news) (h2 : (dx, od) ∈ news) : InstAt h x ⟨.ref C, some dx, .fields vs, sl⟩ C (some od) := ⟨(N _ h1).1, rfl, rfl, (N _ h2).1⟩
theorem instEB (F : Fr h₀ L h m) (h1 : h₀.get? x = some ⟨.ref C, some dx, .fields vs, sl⟩) (N : News h₀ L h news) (h2 : (dx, od) ∈ news) : InstAt h x ⟨.ref C, some dx, .fields vs, sl⟩ C (some od) := ⟨F.keep _ _ h1, rfl, rfl, (N _ h2).1⟩
theorem pass87 (x : Value) : refuseLoop x "__setattr__" [.ref 87, .ref 31, .ref 45, .type "Exception", .type "BaseException", .type "object"] = pure () := by
  rw [refuseLoop_ref, refuseLoop_ref, refuseLoop_ref]; exact PySem.F.store_Exception.passes x
theorem pass125 (x : Value) : refuseLoop x "__setattr__" [.ref 125, .ref 87, .ref 31, .ref 45, .type "Exception", .type "BaseException", .type "object"] = pure () := by
  rw [refuseLoop_ref, refuseLoop_ref, refuseLoop_ref, refuseLoop_ref]; exact PySem.F.store_Exception.passes x
end
end Mine
end
section
open PySem PySem.W PyProof.Rows PySem.Calls PySem.Spec
set_option Elab.async false
set_option maxRecDepth 100000
set_option maxHeartbeats 1000000
namespace Mine
abbrev IK (w : World) := intKind PySem.Challenge.rw_vj0018_01.row.prog w
/-- the five expressions -/
inductive Ex | R | S | P | Q | T
  deriving DecidableEq
/-- what stands still in one match -/
structure Ctx where
  ad : Ex → Addr
  dd : Ex → Addr
  it : Ex → Addr
  tR : Addr
  tS : Addr
  nt : Ex → Tok
  lt : Ex → Tok
  p : Nat
  q : Nat
  r : Nat
  n : Nat
  lit : Nat → Str
  tt : Tok
  cache : Addr
  err : Addr
  derr : Addr
  at_ : Addr
  told : Ex → Addr
  its : Ex → List Addr
  old : Ex → List (Int × Addr)
def Ctx.len (c : Ctx) : Ex → Nat
  | .P => c.p
  | .Q => c.q
  | .T => c.r
  | _ => 0
def Ctx.text (c : Ctx) : Value := .str (c.lit c.n) c.tt
def Ctx.ob (c : Ctx) : Ex → Obj
  | .R => oneObj (c.dd .R) c.tR (c.it .R) (.str (Str.ofString "s") (c.nt .R))
  | .S => seqObj (c.dd .S) c.tS (c.it .S) (.str (Str.ofString "") (c.nt .S))
  | e => litObj (c.dd e) (.str (c.lit (c.len e)) (c.lt e)) (c.it e) (.str (Str.ofString "") (c.nt e))
/-- what the literals are and how they lie in the text -/
structure Ctx.Fine (c : Ctx) : Prop where
  len : ∀ k, (c.lit k).length = k
  starts : ∀ (k : Nat) (j : Int), 0 ≤ j → j ≤ c.n → Txt.startswith3 (c.lit c.n) (c.lit k) j = decide (j + k ≤ c.n)
  p0 : 1 ≤ c.p
  p4 : c.p ≤ 4
  q0 : 1 ≤ c.q
  q4 : c.q ≤ 4
  r0 : 1 ≤ c.r
  r4 : c.r ≤ 4
  n16 : c.n ≤ 16
/-- a leaf: a node of a literal -/
def LitNode (kn : Addr → Obj → Prop) (c : Ctx) (e : Ex) (nd : Addr) (st en : Int) : Prop :=
  ∃ lc dn tS tE, kn nd (nodeObj dn lc (c.ad e) c.text (.int st tS) (.int en tE)) ∧ kn lc (listOf #[] 0) ∧ ∃ od, kn dn od
/-- a node of the rule: `d` levels -/
inductive RNode (kn : Addr → Obj → Prop) (c : Ctx) : Addr → Int → Int → Nat → Prop
  | base {nd lc dn y : Addr} {st en : Int} {tS tE : Tok} {ep : Nat} {od : Obj} : kn nd (nodeObj dn lc (c.ad .R) c.text (.int st tS) (.int en tE)) → kn lc (listOf #[.ref y] ep) → kn dn od →
      LitNode kn c .T y st en → en = st + c.r → RNode kn c nd st en 1
  | step {nd lc dn y lc' dn' a b z : Addr} {st en st' en' : Int} {tS tE tS' tE' : Tok} {ep ep' : Nat} {od od' : Obj} {d : Nat} : kn nd (nodeObj dn lc (c.ad .R) c.text (.int st tS) (.int en tE)) → kn lc (listOf #[.ref y] ep) → kn dn od →
      kn y (nodeObj dn' lc' (c.ad .S) c.text (.int st tS') (.int en tE')) → kn lc' (listOf #[.ref a, .ref b, .ref z] ep') → kn dn' od' →
      LitNode kn c .P a st st' → RNode kn c b st' en' d → LitNode kn c .Q z en' en → st' = st + c.p → en = en' + c.q → RNode kn c nd st en (d + 1)
/-- how far, how deep -/
def reach (p q r : Nat) : Nat → Nat × Nat
  | left =>
    if h : 1 ≤ p ∧ p ≤ left then
      let x := reach p q r (left - p)
      if 0 < x.1 ∧ q ≤ left - p - x.1 then (p + x.1 + q, x.2 + 1) else if r ≤ left then (r, 1) else (0, 0)
    else if r ≤ left then (r, 1) else (0, 0)
termination_by left => left
decreasing_by omega
/-- the value of a literal's row at a place -/
def LitVal (kn : Addr → Obj → Prop) (c : Ctx) (e : Ex) (j : Int) (v : Value) : Prop :=
  (v = .none ∧ ¬ (j + c.len e ≤ c.n)) ∨ (∃ nd, v = .ref nd ∧ @Ne Nat nd 251 ∧ j + c.len e ≤ c.n ∧ LitNode kn c e nd j (j + c.len e))
/-- what of a ledger is left behind a call -/
structure Ext (M M' : List (Addr × Obj)) : Prop where
  same : ∀ p ∈ M, p.2.cls ≠ .type "dict" → p ∈ M'
  there : ∀ p ∈ M, ∃ o', (p.1, o') ∈ M'
theorem Ext.refl {M : List (Addr × Obj)} : Ext M M := ⟨fun _ h _ => h, fun p h => ⟨p.2, h⟩⟩
theorem Ext.trans {M M' M'' : List (Addr × Obj)} (a : Ext M M') (b : Ext M' M'') : Ext M M'' :=
  ⟨fun p h k => b.same p (a.same p h k) k, fun p h => let ⟨o, ho⟩ := a.there p h; b.there (p.1, o) ho⟩
/-- knowledge that outlives a call: what is no dict stays, what is there stays there -/
def KExt (kn kn' : Addr → Obj → Prop) : Prop := (∀ a o, kn a o → o.cls ≠ .type "dict" → kn' a o) ∧ ∀ a o, kn a o → ∃ o', kn' a o'
theorem KExt.refl {kn : Addr → Obj → Prop} : KExt kn kn := ⟨fun _ _ h _ => h, fun _ o h => ⟨o, h⟩⟩
theorem KExt.trans {kn kn' kn'' : Addr → Obj → Prop} (a : KExt kn kn') (b : KExt kn' kn'') : KExt kn kn'' :=
  ⟨fun x o h k => b.1 x o (a.1 x o h k) k, fun x o h => let ⟨o', h'⟩ := a.2 x o h; b.2 x o' h'⟩
theorem Ext.kn {h₀ : Heap} {M M' rest : List (Addr × Obj)} (x : Ext M M') : KExt (Kn h₀ (M ++ rest)) (Kn h₀ (M' ++ rest)) := by
  refine ⟨fun a o h k => ?_, fun a o h => ?_⟩
  · rcases h with h | h
    · exact .inl h
    · rcases List.mem_append.mp h with h | h
      · exact .inr (List.mem_append_left _ (x.same _ h k))
      · exact .inr (List.mem_append_right _ h)
  · rcases h with h | h
    · exact ⟨o, .inl h⟩
    · rcases List.mem_append.mp h with h | h
      · obtain ⟨o', h'⟩ := x.there _ h
        exact ⟨o', .inr (List.mem_append_left _ h')⟩
      · exact ⟨o, .inr (List.mem_append_right _ h)⟩
theorem KExt.of_sub {kn kn' : Addr → Obj → Prop} (h : ∀ a o, kn a o → kn' a o) : KExt kn kn' := ⟨fun a o x _ => h a o x, fun a o x => ⟨o, h a o x⟩⟩
theorem cls_dict_ne {C : Addr} {a : Option Addr} {c : Data} {d : Array (Option Value)} : (Obj.mk (.ref C) a c d).cls ≠ .type "dict" := by intro h; cases h
theorem cls_list_ne {its : Array Value} {n : Nat} : (listOf its n).cls ≠ .type "dict" := by intro h; exact absurd (Value.type.inj h) (by decide)
theorem cls_tup_ne {its : Array Value} : (tupObj its).cls ≠ .type "dict" := by intro h; exact absurd (Value.type.inj h) (by decide)
theorem LitNode.ext {kn kn' : Addr → Obj → Prop} {c : Ctx} {e : Ex} {nd : Addr} {st en : Int} (k : KExt kn kn') (h : LitNode kn c e nd st en) : LitNode kn' c e nd st en := by
  obtain ⟨lc, dn, tS, tE, a, b, od, d⟩ := h
  exact ⟨lc, dn, tS, tE, k.1 _ _ a cls_dict_ne, k.1 _ _ b cls_list_ne, k.2 _ _ d⟩
theorem RNode.ext {kn kn' : Addr → Obj → Prop} {c : Ctx} {nd : Addr} {st en : Int} {d : Nat} (k : KExt kn kn') (h : RNode kn c nd st en d) : RNode kn' c nd st en d := by
  induction h with
  | base a b d e f =>
    obtain ⟨o', d'⟩ := k.2 _ _ d
    exact .base (k.1 _ _ a cls_dict_ne) (k.1 _ _ b cls_list_ne) d' (e.ext k) f
  | step a b d e f g h _ i j l ih =>
    obtain ⟨o', d'⟩ := k.2 _ _ d
    obtain ⟨o'', g'⟩ := k.2 _ _ g
    exact .step (k.1 _ _ a cls_dict_ne) (k.1 _ _ b cls_list_ne) d' (k.1 _ _ e cls_dict_ne) (k.1 _ _ f cls_list_ne) g' (h.ext k) ih (i.ext k) j l
theorem LitVal.ext {kn kn' : Addr → Obj → Prop} {c : Ctx} {e : Ex} {j : Int} {v : Value} (k : KExt kn kn') (h : LitVal kn c e j v) : LitVal kn' c e j v := by
  rcases h with h | ⟨nd, a, z, b, d⟩
  · exact .inl h
  · exact .inr ⟨nd, a, z, b, d.ext k⟩
/-- an expression's instance in the ground -/
def ExB (h₀ : Heap) (ex dx : Addr) : Prop :=
  ∃ C sl nm tk, (C = 367 ∨ C = 425 ∨ C = 451) ∧ h₀.get? ex = some ⟨.ref C, some dx, .plain, sl⟩ ∧ (sl[2]?).join = some (.str nm tk)
theorem name_find (P : Params) (C : Addr) (od : Obj) (h : C = 367 ∨ C = 425 ∨ C = 451) :
    findObj (hd.heap_39 P) C (some od) "name" = some (.bind (.builtin "member_descriptor.__get__") (.ref 329)) ∧ slotIn (hd.heap_39 P) 329 C = some 2 ∧ subIn (hd.heap_39 P) (.ref C) (.type "module") = some false ∧
    findIn (hd.heap_39 P) (.ref C) "__getattribute__" = some (some (.builtin "object.__getattribute__")) ∧ findIn (hd.heap_39 P) (.ref C) "__getattr__" = some none := by
  rcases h with rfl | rfl | rfl
  · exact ⟨by kernel_rfl, by kernel_rfl, by kernel_rfl, by kernel_rfl, by kernel_rfl⟩
  · exact ⟨by kernel_rfl, by kernel_rfl, by kernel_rfl, by kernel_rfl, by kernel_rfl⟩
  · exact ⟨by kernel_rfl, by kernel_rfl, by kernel_rfl, by kernel_rfl, by kernel_rfl⟩
theorem ga_nameK {prog : Program} {w : World} {A : Around} {E : Value → Shared → Prop} {s : Shared} {h₀ : Heap} {L : Addr} {m : Str → Option Value} {news : List (Addr × Obj)} {Q : Value → Shared → Prop} {P : Params} {ex dx : Addr} {od : Obj} {t : Tok} {dflt : Value}
    (F : Fr h₀ L s.heap m) (X₀ : (hd.heap_39 P).In h₀) (N : News h₀ L s.heap news) (hex : ExB h₀ ex dx) (hd' : (dx, od) ∈ news) (h : ∀ nm tk, Q (.str nm tk) s) :
    wpAny (model prog w) A (call (.builtin "getattr") [.ref ex, .str (Str.ofString "name") t, dflt]) Q E s := by
  obtain ⟨C, sl, nm, tk, hC, hx, hs⟩ := hex
  obtain ⟨a1, a2, a3, a4, a5⟩ := name_find P C od hC
  exact ga3_slot (X₀.keeps F.keep) ⟨F.keep _ _ hx, rfl, rfl, (N _ hd').1⟩ a3 (by decide) a4 a5 a1 a2 hs rfl (h nm tk)
def um : Ex → Addr
  | .R => 441
  | .S => 415
  | _ => 356
/-- the pairs of oids -/
inductive Items (kn : Addr → Obj → Prop) : List Addr → List (Int × Addr) → Prop
  | nil : Items kn [] []
  | cons {it row : Addr} {o : Obj} {k : Int} {tk : Tok} {its : List Addr} {l : List (Int × Addr)} : kn it (tupObj #[.int k tk, .ref row]) → kn row o → o.cls = .type "dict" → Items kn its l → Items kn (it :: its) ((k, row) :: l)
abbrev titems (its : List Addr) : Array Value := (its.map Value.ref).toArray
abbrev oidsDict (hh : Int) (tk : Tok) (t : Addr) (nd : Nat) : Obj := dictOf [⟨hh, .str (Str.ofString "oids") tk, .ref t⟩] nd
abbrev erL (h1 h2 h3 : Int) (k1 k2 k3 : Tok) (tx pv ev : Value) : List DictEntry := [⟨h1, .str (Str.ofString "text") k1, tx⟩, ⟨h2, .str (Str.ofString "pos") k2, pv⟩, ⟨h3, .str (Str.ofString "expr") k3, ev⟩]
def ErOk (c : Ctx) (ER : Obj) : Prop :=
  ∃ h1 h2 h3 k1 k2 k3 tx epos te ev ne, ER = dictOf (erL h1 h2 h3 k1 k2 k3 tx (.int epos te) ev) ne ∧ -1000 ≤ epos ∧ epos ≤ 1000 ∧ (ev = .none ∨ ∃ e, ev = .ref (c.ad e))
/-- the turning state of a match -/
structure MSt where
  ask : Ex → Option (Int × Addr)
  row : Ex → List (Int × Value)
  kvs : List (Int × Value)
def bit (o : Option (Int × Addr)) : Nat := if o.isNone then 1 else 0
def MSt.un (σ : MSt) : Nat := bit (σ.ask .R) + bit (σ.ask .S) + bit (σ.ask .P) + bit (σ.ask .Q) + bit (σ.ask .T)
def MSt.Le (σ σ' : MSt) : Prop := ∀ e x, σ.ask e = some x → σ'.ask e = some x
theorem MSt.Le.refl {σ : MSt} : σ.Le σ := fun _ _ h => h
theorem MSt.Le.trans {a b c : MSt} (x : a.Le b) (y : b.Le c) : a.Le c := fun e v h => y e v (x e v h)
abbrev Mem (M : List (Addr × Obj)) (a : Addr) (o : Obj) : Prop := (a, o) ∈ M
/-- what stands in the ground of a match -/
structure Gnd (c : Ctx) (kn : Addr → Obj → Prop) : Prop where
  imm : ∀ e, kn (c.ad e) (c.ob e)
  tR : kn c.tR (tupObj #[.ref (c.ad .S), .ref (c.ad .T)])
  tS : kn c.tS (tupObj #[.ref (c.ad .P), .ref (c.ad .R), .ref (c.ad .Q)])
  err : kn c.err (errObj c.derr c.at_)
  told : ∀ e, c.old e ≠ [] → kn (c.told e) (tupObj (titems (c.its e)))
  its : ∀ e, Items kn (c.its e) (c.old e)
  small : ∀ e, (c.its e).length ≤ 100
  dds : ∀ e, @LT.lt Nat _ (c.dd e) c.cache
  derrlt : @LT.lt Nat _ c.derr c.cache
  ddne : ∀ e e', e ≠ e' → @Ne Nat (c.dd e) (c.dd e')
  ddder : ∀ e, @Ne Nat (c.dd e) c.derr
  lo : (c.cache == sysModules) = false
structure Inv (w : World) (c : Ctx) (bz : Ex → Int → Prop) (Bd : Nat) (M : List (Addr × Obj)) (σ : MSt) : Prop where
  dict0 : ∀ e, σ.ask e = none → c.old e = [] → (c.dd e, dictOf [] 0) ∈ M
  dict1 : ∀ e, σ.ask e = none → c.old e ≠ [] → ∃ hh tk nd, (c.dd e, oidsDict hh tk (c.told e) nd) ∈ M
  dict2 : ∀ e k row, σ.ask e = some (k, row) → ∃ hh tk t nd it tk', (c.dd e, oidsDict hh tk t nd) ∈ M ∧ (t, tupObj (titems (it :: c.its e))) ∈ M ∧ (it, tupObj #[.int k tk', .ref row]) ∈ M
  cache : ∃ oC, (c.cache, oC) ∈ M ∧ oC.IsDictOf (IK w) σ.kvs
  er : ∃ ER, (c.derr, ER) ∈ M ∧ ErOk c ER
  keys : ∀ j v, valueAt σ.kvs j = some v → 0 ≤ j ∧ j < σ.kvs.length
  count : σ.kvs.length + σ.un ≤ 5
  vals : ∀ j v, valueAt σ.kvs j = some v → ∃ a o, v = .ref a ∧ @LT.lt Nat _ c.cache a ∧ (a, o) ∈ M ∧ o.cls = .type "dict"
  asked : ∀ e k row, σ.ask e = some (k, row) → valueAt σ.kvs k = some (.ref row) ∧ (row == sysModules) = false ∧ @LT.lt Nat _ c.cache row ∧ ∃ oR, (row, oR) ∈ M ∧ oR.IsDictOf (IK w) (σ.row e)
  unrow : ∀ e, σ.ask e = none → σ.row e = []
  rowne : ∀ e e' k k' row row', σ.ask e = some (k, row) → σ.ask e' = some (k', row') → e ≠ e' → @Ne Nat row row'
  lits : ∀ e, e = .P ∨ e = .Q ∨ e = .T → ∀ j v, ¬ bz e j → valueAt (σ.row e) j = some v → LitVal (Mem M) c e j v
  size : ∀ e, (σ.row e).length ≤ Bd
abbrev PR := PySem.Challenge.rw_vj0018_01.row.prog
structure Gives (w : World) (c : Ctx) (f : Addr) (e : Ex) (pos : Int) (dep cost : Nat) (bz : Ex → Int → Prop) (Pre : MSt → Prop) (Post : MSt → MSt → Prop) (Res : (Addr → Obj → Prop) → Value → Prop) : Prop where
  go : ∀ {dp un : Nat} {gd : Option (List Code)} {cn : Str} {sn : List (Str × NameKind)} {sg sc : Bool} {sm : List (Str × Const)} {a : Addr} {ccd : Value} {cl : List (Str × Addr)} {outer : List Env} {A₀ : Around} {base h₀ : Heap} {L : Addr} {m : Str → Option Value} {s : Shared}
    {p : Program} {loose : List Str} {mean : ExcName → Option Value} {mg mb : Str → Option Value} {Q E : Value → Shared → Prop} {M rest : List (Addr × Obj)} {σ : MSt} {Bd : Nat} {tp : Tok},
    Below A₀ base outer h₀ → Fr h₀ L s.heap m → (hd.heap_39 w.params).In h₀ → Top p loose mean mg mb h₀ → dp + dep + 30 < recursionLimit → un + 10 * dep + 300 < cLine →
    News h₀ L s.heap (M ++ rest) → (∀ p ∈ M, ∀ q ∈ rest, p.1 ≠ q.1) → Gnd c (Kn h₀ rest) → Inv w c bz Bd M σ → Bd + cost ≤ 100000 → Pre σ →
    (∀ r new σ' h' tk', Fr h₀ L h' m → News h₀ L h' (new ++ rest) → (∀ p ∈ new, ∀ q ∈ rest, p.1 ≠ q.1) → Ext M new → Inv w c bz (Bd + cost) new σ' → σ.Le σ' → Post σ σ' → Res (Mem new) r → Q r ⟨h', s.gens, s.drawn, tk', s.os⟩) →
    wpAny (model PR w) (ktrTop dp un gd cn ⟨.function, sn, sg, sc, sm⟩ L a ccd cl outer) (call (.ref f) [.ref (c.ad e), c.text, .int pos tp, .ref c.cache, .ref c.err]) Q E s
section
variable {w : World} {A : Around} {E : Value → Shared → Prop} {s : Shared} {x L dx : Addr} {ox : Obj} {h₀ : Heap} {m : Str → Option Value} {news news' : List (Addr × Obj)} {n : Nat} {v tx pv ev : Value} {h1 h2 h3 : Int} {k1 k2 k3 : Tok} {Q : Unit → Shared → Prop}
theorem er_set_expr (F : Fr h₀ L s.heap m) (X₀ : (hd.heap_39 w.params).In h₀) (N : News h₀ L s.heap news) (I : InstAt s.heap x ox 87 (some (dictOf (erL h1 h2 h3 k1 k2 k3 tx pv ev) n))) (hd' : ox.dict = some dx)
    (U : Upd dx (dictOf (erL h1 h2 h3 k1 k2 k3 tx pv ev) n) (dictOf (erL h1 h2 h3 k1 k2 k3 tx pv v) n) news news')
    (h : ∀ h', Fr h₀ L h' m → News h₀ L h' news' → Q () { s with heap := h', toks := s.toks + 2 }) :
    wpAny (model PySem.Challenge.rw_vj0018_01.row.prog w) A (setAttr (.ref x) (Str.ofString "expr") v) Q E s := by
  refine exc_setK F X₀ N I hd' (by kernel_rfl) (cd := _) rfl (pass87 _) rfl (by kernel_rfl) (by kernel_rfl) rfl ?_ U ?_ h
  · with_unfolding_all rfl
  · show 3 ≤ 1000; decide
theorem er_set_pos (F : Fr h₀ L s.heap m) (X₀ : (hd.heap_39 w.params).In h₀) (N : News h₀ L s.heap news) (I : InstAt s.heap x ox 87 (some (dictOf (erL h1 h2 h3 k1 k2 k3 tx pv ev) n))) (hd' : ox.dict = some dx)
    (U : Upd dx (dictOf (erL h1 h2 h3 k1 k2 k3 tx pv ev) n) (dictOf (erL h1 h2 h3 k1 k2 k3 tx v ev) n) news news')
    (h : ∀ h', Fr h₀ L h' m → News h₀ L h' news' → Q () { s with heap := h', toks := s.toks + 2 }) :
    wpAny (model PySem.Challenge.rw_vj0018_01.row.prog w) A (setAttr (.ref x) (Str.ofString "pos") v) Q E s := by
  refine exc_setK F X₀ N I hd' (by kernel_rfl) (cd := _) rfl (pass87 _) rfl (by kernel_rfl) (by kernel_rfl) rfl ?_ U ?_ h
  · with_unfolding_all rfl
  · show 3 ≤ 1000; decide
end
theorem allLt_at {d : Nat} : ∀ {l : List (Addr × Obj)}, AllLt d l → ∀ p ∈ l, p.1 ≠ d
  | [], _, _, h => nomatch h
  | _ :: _, h, p, hp => by
    rcases List.mem_cons.mp hp with rfl | hp
    · exact Nat.ne_of_lt h.1
    · exact allLt_at h.2 p hp
end Mine
end
section
open PySem PySem.W PyProof.Rows PySem.Calls PySem.Spec
set_option Elab.async false
set_option maxRecDepth 100000
set_option maxHeartbeats 1000000
namespace Mine
theorem take1 {M : List (Addr × Obj)} {a : Addr} {o : Obj} (hu : ∀ a o o', (a, o) ∈ M → (a, o') ∈ M → o = o') (h : (a, o) ∈ M) : ∃ M', (∀ p, p ∈ M ↔ p ∈ (a, o) :: M') ∧ ∀ p ∈ M', p.1 ≠ a := by
  refine ⟨M.filter fun p => decide (p.1 ≠ a), fun p => ?_, fun p hp => by simpa using (List.mem_filter.mp hp).2⟩
  rw [List.mem_cons, List.mem_filter]
  constructor
  · intro hp
    by_cases e : p.1 = a
    · left
      obtain ⟨b, ob⟩ := p
      dsimp only at e
      subst e
      rw [hu _ _ _ hp h]
    · exact .inr ⟨hp, by simpa using e⟩
  · rintro (rfl | hp)
    · exact h
    · exact hp.1
theorem news_uniq {h₀ h : Heap} {L : Addr} {M : List (Addr × Obj)} (N : News h₀ L h M) : ∀ a o o', (a, o) ∈ M → (a, o') ∈ M → o = o' := fun _ _ _ x y => Option.some.inj ((N _ x).1.symm.trans (N _ y).1)
theorem News.sub {h₀ h : Heap} {L : Addr} {M M' : List (Addr × Obj)} (N : News h₀ L h M) (s : ∀ p ∈ M', p ∈ M) : News h₀ L h M' := fun p hp => N p (s p hp)
theorem LitVal.mono {M M' : List (Addr × Obj)} {c : Ctx} {e : Ex} {j : Int} {v : Value} (h : LitVal (Mem M) c e j v) (k : Ext M M') : LitVal (Mem M') c e j v :=
  h.ext ⟨fun a o h => k.same (a, o) h, fun a o h => k.there (a, o) h⟩
theorem Ext.mem {M M' : List (Addr × Obj)} (k : Ext M M') : KExt (Mem M) (Mem M') := ⟨fun a o h => k.same (a, o) h, fun a o h => k.there (a, o) h⟩
theorem Ext.of_sub {M M' : List (Addr × Obj)} (h : ∀ p ∈ M, p ∈ M') : Ext M M' := ⟨fun p hp _ => h p hp, fun p hp => ⟨p.2, h p hp⟩⟩
theorem dictOf_cls {w : World} {o : Obj} {kvs : List (Int × Value)} (h : o.IsDictOf (IK w) kvs) : o.cls = .type "dict" := by
  obtain ⟨es, ep, a, _⟩ := h
  exact a.1
theorem ErOk.cls {c : Ctx} {o : Obj} (h : ErOk c o) : o.cls = .type "dict" := by
  obtain ⟨h1, h2, h3, k1, k2, k3, tx, ep, te, ev, ne, rfl, _⟩ := h
  rfl
/-- more of a ledger, and what is known stays -/
theorem Inv.congr {w : World} {c : Ctx} {bz : Ex → Int → Prop} {Bd : Nat} {M M' : List (Addr × Obj)} {σ : MSt} (I : Inv w c bz Bd M σ) (h : ∀ p ∈ M, p ∈ M') : Inv w c bz Bd M' σ where
  dict0 e a b := h _ (I.dict0 e a b)
  dict1 e a b := let ⟨hh, tk, nd, x⟩ := I.dict1 e a b; ⟨hh, tk, nd, h _ x⟩
  dict2 e k r a := let ⟨hh, tk, t, nd, it, tk', x, y, z⟩ := I.dict2 e k r a; ⟨hh, tk, t, nd, it, tk', h _ x, h _ y, h _ z⟩
  cache := let ⟨o, a, b⟩ := I.cache; ⟨o, h _ a, b⟩
  er := let ⟨o, a, b⟩ := I.er; ⟨o, h _ a, b⟩
  keys := I.keys
  count := I.count
  vals j v a := let ⟨x, o, p, q, r, t⟩ := I.vals j v a; ⟨x, o, p, q, h _ r, t⟩
  asked e k r a := let ⟨x, y, z, o, u, v⟩ := I.asked e k r a; ⟨x, y, z, o, h _ u, v⟩
  unrow := I.unrow
  rowne := I.rowne
  lits e a j v b x := (I.lits e a j v b x).mono (Ext.of_sub h)
  size := I.size
structure Split (w : World) (c : Ctx) (e : Ex) (M : List (Addr × Obj)) (σ : MSt) (row : Addr) (oR ER : Obj) (hh : Int) (tk : Tok) (t : Addr) (nd : Nat) (oth : List (Addr × Obj)) : Prop where
  iff : ∀ p, p ∈ M ↔ p ∈ (row, oR) :: (c.derr, ER) :: (c.dd e, oidsDict hh tk t nd) :: oth
  dict : oR.IsDictOf (IK w) (σ.row e)
  er : ErOk c ER
  n1 : ∀ p ∈ oth, p.1 ≠ row
  n2 : ∀ p ∈ oth, p.1 ≠ c.derr
  n3 : ∀ p ∈ oth, p.1 ≠ c.dd e
  e1 : @Ne Nat row c.derr
  e2 : @Ne Nat row (c.dd e)
  e3 : @Ne Nat (c.dd e) c.derr
  lo : (row == sysModules) = false
theorem inv_split {w : World} {c : Ctx} {bz : Ex → Int → Prop} {Bd : Nat} {M : List (Addr × Obj)} {σ : MSt} {g h : Heap} {L : Addr} {kn : Addr → Obj → Prop} {e : Ex} {k : Int} {row : Addr} (N : News g L h M) (G : Gnd c kn) (I : Inv w c bz Bd M σ) (ha : σ.ask e = some (k, row)) :
    ∃ oR ER hh tk t nd oth, Split w c e M σ row oR ER hh tk t nd oth := by
  obtain ⟨_, lo, lt, oR, hR, hRd⟩ := I.asked e k row ha
  obtain ⟨ER, hE, hEd⟩ := I.er
  obtain ⟨hh, tk, t, nd, it, tk', hD, _, _⟩ := I.dict2 e k row ha
  have q1 : @Ne Nat row c.derr := Nat.ne_of_gt (Nat.lt_trans G.derrlt lt)
  have q2 : @Ne Nat row (c.dd e) := Nat.ne_of_gt (Nat.lt_trans (G.dds e) lt)
  have q3 := G.ddder e
  obtain ⟨M1, i1, f1⟩ := take1 (news_uniq N) hR
  have hE1 : (c.derr, ER) ∈ M1 := ((List.mem_cons.mp ((i1 _).mp hE)).resolve_left fun z => q1 (congrArg Prod.fst z).symm)
  have N1 : News g L h M1 := News.sub N fun p hp => (i1 p).mpr (.tail _ hp)
  obtain ⟨M2, i2, f2⟩ := take1 (news_uniq N1) hE1
  have hD1 : (c.dd e, oidsDict hh tk t nd) ∈ M1 := ((List.mem_cons.mp ((i1 _).mp hD)).resolve_left fun z => q2 (congrArg Prod.fst z).symm)
  have hD2 : (c.dd e, oidsDict hh tk t nd) ∈ M2 := ((List.mem_cons.mp ((i2 _).mp hD1)).resolve_left fun z => q3 (congrArg Prod.fst z))
  have N2 : News g L h M2 := News.sub N1 fun p hp => (i2 p).mpr (.tail _ hp)
  obtain ⟨M3, i3, f3⟩ := take1 (news_uniq N2) hD2
  refine ⟨oR, ER, hh, tk, t, nd, M3, fun p => ?_, hRd, hEd, ?_, ?_, f3, q1, q2, q3, lo⟩
  · rw [i1, List.mem_cons, i2, List.mem_cons, i3]; simp only [List.mem_cons]
  · exact fun p hp => f1 p ((i2 p).mpr (.tail _ ((i3 p).mpr (.tail _ hp))))
  · exact fun p hp => f2 p ((i3 p).mpr (.tail _ hp))
def MSt.put (σ : MSt) (e : Ex) (kvs : List (Int × Value)) : MSt := { σ with row := fun e' => if e' = e then kvs else σ.row e' }
theorem Inv.put {w : World} {c : Ctx} {bz bz' : Ex → Int → Prop} {Bd Bd' : Nat} {oth : List (Addr × Obj)} {σ : MSt} {kn : Addr → Obj → Prop} {e : Ex} {k : Int} {row : Addr} {oR oR' ER ER' : Obj} {kvs : List (Int × Value)} (G : Gnd c kn)
    (I : Inv w c bz Bd ((row, oR) :: (c.derr, ER) :: oth) σ) (ha : σ.ask e = some (k, row)) (n1 : ∀ p ∈ oth, p.1 ≠ row) (n2 : ∀ p ∈ oth, p.1 ≠ c.derr) (ne : @Ne Nat row c.derr) (od : oR.IsDictOf (IK w) (σ.row e)) (oe : ErOk c ER)
    (hR : oR'.IsDictOf (IK w) kvs) (hE : ErOk c ER') (hl : e = .P ∨ e = .Q ∨ e = .T → ∀ j v, ¬ bz' e j → valueAt kvs j = some v → LitVal (Mem ((row, oR) :: (c.derr, ER) :: oth)) c e j v)
    (hbz : ∀ e' j, e' ≠ e → ¬ bz' e' j → ¬ bz e' j) (hz : kvs.length ≤ Bd') (hB : Bd ≤ Bd') :
    Inv w c bz' Bd' ((row, oR') :: (c.derr, ER') :: oth) (σ.put e kvs) ∧ Ext ((row, oR) :: (c.derr, ER) :: oth) ((row, oR') :: (c.derr, ER') :: oth) ∧ σ.Le (σ.put e kvs) := by
  have off : ∀ a o, (a, o) ∈ (row, oR) :: (c.derr, ER) :: oth → a ≠ row → a ≠ c.derr → (a, o) ∈ (row, oR') :: (c.derr, ER') :: oth := by
    intro a o h x y
    rcases List.mem_cons.mp h with z | h
    · exact absurd (congrArg Prod.fst z) x
    · rcases List.mem_cons.mp h with z | h
      · exact absurd (congrArg Prod.fst z) y
      · exact .tail _ (.tail _ h)
  have X : Ext ((row, oR) :: (c.derr, ER) :: oth) ((row, oR') :: (c.derr, ER') :: oth) := by
    refine ⟨fun p h q => ?_, fun p h => ?_⟩
    · rcases List.mem_cons.mp h with rfl | h
      · exact absurd (dictOf_cls od) q
      · rcases List.mem_cons.mp h with rfl | h
        · exact absurd oe.cls q
        · exact .tail _ (.tail _ h)
    · rcases List.mem_cons.mp h with rfl | h
      · exact ⟨oR', .head _⟩
      · rcases List.mem_cons.mp h with rfl | h
        · exact ⟨ER', .tail _ (.head _)⟩
        · exact ⟨p.2, .tail _ (.tail _ h)⟩
  have rlt := (I.asked e k row ha).2.2.1
  have dn : ∀ e', c.dd e' ≠ row := fun e' => Nat.ne_of_lt (Nat.lt_trans (G.dds e') rlt)
  have de : ∀ e', c.dd e' ≠ c.derr := G.ddder
  refine ⟨⟨?_, ?_, ?_, ?_, ?_, I.keys, I.count, ?_, ?_, ?_, I.rowne, ?_, ?_⟩, X, fun _ _ h => h⟩
  · exact fun e' a b => off _ _ (I.dict0 e' a b) (dn e') (de e')
  · intro e' a b
    obtain ⟨hh, tk, nd, x⟩ := I.dict1 e' a b
    exact ⟨hh, tk, nd, off _ _ x (dn e') (de e')⟩
  · intro e' k' r' a
    obtain ⟨hh, tk, t, nd, it, tk', x, y, z⟩ := I.dict2 e' k' r' a
    exact ⟨hh, tk, t, nd, it, tk', off _ _ x (dn e') (de e'), X.same _ y cls_tup_ne, X.same _ z cls_tup_ne⟩
  · obtain ⟨oC, x, y⟩ := I.cache
    exact ⟨oC, off _ _ x (Nat.ne_of_lt rlt) (Nat.ne_of_gt G.derrlt), y⟩
  · exact ⟨ER', .tail _ (.head _), hE⟩
  · intro j v h
    obtain ⟨a, o, p, q, r, t⟩ := I.vals j v h
    by_cases z : a = row
    · subst z
      exact ⟨a, oR', p, q, .head _, dictOf_cls hR⟩
    · exact ⟨a, o, p, q, off _ _ r z (Nat.ne_of_gt (Nat.lt_trans G.derrlt q)), t⟩
  · intro e' k' r' a
    obtain ⟨x, y, z, o, u, v⟩ := I.asked e' k' r' a
    refine ⟨x, y, z, ?_⟩
    by_cases q : e' = e
    · subst q
      obtain ⟨rfl, rfl⟩ := Prod.mk.inj (Option.some.inj (a.symm.trans ha))
      exact ⟨oR', .head _, by show Obj.IsDictOf _ _ (if e' = e' then kvs else _); rw [if_pos rfl]; exact hR⟩
    · refine ⟨o, off _ _ u (I.rowne _ _ _ _ _ _ a ha q) (Nat.ne_of_gt (Nat.lt_trans G.derrlt z)), ?_⟩
      show Obj.IsDictOf _ _ (if e' = e then kvs else _)
      rw [if_neg q]; exact v
  · intro e' a
    show (if e' = e then kvs else _) = _
    rw [if_neg (fun q => by have a' : σ.ask e' = none := a; rw [q, ha] at a'; cases a')]
    exact I.unrow e' a
  · intro e' l j v b
    show valueAt (if e' = e then kvs else _) j = _ → _
    by_cases q : e' = e
    · subst q
      rw [if_pos rfl]
      exact fun x => (hl l j v b x).mono X
    · rw [if_neg q]
      intro x
      exact (I.lits e' l j v (hbz e' j q b) x).mono X
  · intro e'
    show (if e' = e then kvs else _).length ≤ _
    by_cases q : e' = e
    · rw [if_pos q]; exact hz
    · rw [if_neg q]; exact Nat.le_trans (I.size e') hB
theorem valueAt_app {kvs : List (Int × Value)} {k j : Int} {v : Value} : valueAt (kvs ++ [(k, v)]) j = (valueAt kvs j).or (if k = j then some v else none) := by
  unfold valueAt
  rw [List.find?_append]
  cases List.find? (fun kv => decide (kv.1 = j)) kvs with
  | some x => rfl
  | none =>
    by_cases q : k = j
    · subst q; simp
    · simp [q]
def MSt.asked (σ : MSt) (e : Ex) (row : Addr) : MSt := { ask := fun e' => if e' = e then some ((σ.kvs.length : Int), row) else σ.ask e', row := σ.row, kvs := σ.kvs ++ [((σ.kvs.length : Int), .ref row)] }
theorem bit_le {o : Option (Int × Addr)} : bit o ≤ 1 := by unfold bit; split <;> omega
theorem un_asked {σ : MSt} {e : Ex} {row : Addr} (ha : σ.ask e = none) : (σ.asked e row).un + 1 = σ.un := by
  unfold MSt.un MSt.asked
  dsimp only
  cases e <;> simp only [ha, bit, Option.isNone, if_true, if_false, reduceCtorEq, Bool.false_eq_true] <;> omega
/-- the room of what is not asked -/
theorem Inv.room {w : World} {c : Ctx} {bz : Ex → Int → Prop} {Bd : Nat} {M : List (Addr × Obj)} {σ : MSt} {e : Ex} (I : Inv w c bz Bd M σ) (ha : σ.ask e = none) : σ.kvs.length ≤ 4 := by
  have := un_asked (row := 0) ha
  have := I.count
  omega
theorem Inv.fresh {w : World} {c : Ctx} {bz : Ex → Int → Prop} {Bd : Nat} {M : List (Addr × Obj)} {σ : MSt} (I : Inv w c bz Bd M σ) : valueAt σ.kvs (σ.kvs.length : Int) = none := by
  cases q : valueAt σ.kvs (σ.kvs.length : Int) with
  | none => rfl
  | some v => exact absurd (I.keys _ _ q).2 (by omega)
theorem Inv.ask {w : World} {c : Ctx} {bz : Ex → Int → Prop} {Bd : Nat} {oth : List (Addr × Obj)} {σ : MSt} {kn : Addr → Obj → Prop} {e : Ex} {row t it : Addr} {D oC oC' oR : Obj} {hh : Int} {tk tk' : Tok} {nd : Nat} (G : Gnd c kn)
    (I : Inv w c bz Bd ((c.dd e, D) :: (c.cache, oC) :: oth) σ) (ha : σ.ask e = none) (hD : D.cls = .type "dict") (hC : oC.cls = .type "dict")
    (hR : oR.IsDictOf (IK w) []) (hC' : oC'.IsDictOf (IK w) (σ.kvs ++ [((σ.kvs.length : Int), .ref row)])) (lo : (row == sysModules) = false) (lt : ∀ p ∈ (c.dd e, D) :: (c.cache, oC) :: oth, p.1 < row) :
    Inv w c bz Bd ((t, tupObj (titems (it :: c.its e))) :: (it, tupObj #[.int (σ.kvs.length : Int) tk', .ref row]) :: (row, oR) :: (c.dd e, oidsDict hh tk t nd) :: (c.cache, oC') :: oth) (σ.asked e row) ∧
    Ext ((c.dd e, D) :: (c.cache, oC) :: oth) ((t, tupObj (titems (it :: c.its e))) :: (it, tupObj #[.int (σ.kvs.length : Int) tk', .ref row]) :: (row, oR) :: (c.dd e, oidsDict hh tk t nd) :: (c.cache, oC') :: oth) ∧ σ.Le (σ.asked e row) := by
  have off : ∀ a o, (a, o) ∈ (c.dd e, D) :: (c.cache, oC) :: oth → a ≠ c.dd e → a ≠ c.cache → (a, o) ∈ (t, tupObj (titems (it :: c.its e))) :: (it, tupObj #[.int (σ.kvs.length : Int) tk', .ref row]) :: (row, oR) :: (c.dd e, oidsDict hh tk t nd) :: (c.cache, oC') :: oth := by
    intro a o h x y
    rcases List.mem_cons.mp h with z | h
    · exact absurd (congrArg Prod.fst z) x
    · rcases List.mem_cons.mp h with z | h
      · exact absurd (congrArg Prod.fst z) y
      · exact .tail _ (.tail _ (.tail _ (.tail _ (.tail _ h))))
  have X : Ext ((c.dd e, D) :: (c.cache, oC) :: oth) ((t, tupObj (titems (it :: c.its e))) :: (it, tupObj #[.int (σ.kvs.length : Int) tk', .ref row]) :: (row, oR) :: (c.dd e, oidsDict hh tk t nd) :: (c.cache, oC') :: oth) := by
    refine ⟨fun p h q => ?_, fun p h => ?_⟩
    · rcases List.mem_cons.mp h with rfl | h
      · exact absurd hD q
      · rcases List.mem_cons.mp h with rfl | h
        · exact absurd hC q
        · exact .tail _ (.tail _ (.tail _ (.tail _ (.tail _ h))))
    · rcases List.mem_cons.mp h with rfl | h
      · exact ⟨_, .tail _ (.tail _ (.tail _ (.head _)))⟩
      · rcases List.mem_cons.mp h with rfl | h
        · exact ⟨oC', .tail _ (.tail _ (.tail _ (.tail _ (.head _))))⟩
        · exact ⟨p.2, .tail _ (.tail _ (.tail _ (.tail _ (.tail _ h))))⟩
  have dn : ∀ e', e' ≠ e → c.dd e' ≠ c.dd e := fun e' q => G.ddne e' e q
  have dc : ∀ e', c.dd e' ≠ c.cache := fun e' => Nat.ne_of_lt (G.dds e')
  have old : ∀ e' x, (σ.asked e row).ask e' = x → (e' = e ∧ x = some ((σ.kvs.length : Int), row)) ∨ (e' ≠ e ∧ σ.ask e' = x) := by
    intro e' x h
    by_cases q : e' = e
    · left
      refine ⟨q, ?_⟩
      have : (σ.asked e row).ask e' = some ((σ.kvs.length : Int), row) := by unfold MSt.asked; dsimp only; rw [if_pos q]
      exact h.symm.trans this
    · right
      refine ⟨q, ?_⟩
      have : (σ.asked e row).ask e' = σ.ask e' := by unfold MSt.asked; dsimp only; rw [if_neg q]
      exact this.symm.trans h
  have rlt : @LT.lt Nat _ c.cache row := lt (c.cache, oC) (.tail _ (.head _))
  refine ⟨⟨?_, ?_, ?_, ?_, ?_, ?_, ?_, ?_, ?_, ?_, ?_, ?_, I.size⟩, X, ?_⟩
  · intro e' a b
    rcases old e' _ a with ⟨_, z⟩ | ⟨q, z⟩
    · cases z
    · exact off _ _ (I.dict0 e' z b) (dn e' q) (dc e')
  · intro e' a b
    rcases old e' _ a with ⟨_, z⟩ | ⟨q, z⟩
    · cases z
    · obtain ⟨hh, tk, nd, x⟩ := I.dict1 e' z b
      exact ⟨hh, tk, nd, off _ _ x (dn e' q) (dc e')⟩
  · intro e' k' r' a
    rcases old e' _ a with ⟨q, z⟩ | ⟨q, z⟩
    · subst q
      obtain ⟨rfl, rfl⟩ := Prod.mk.inj (Option.some.inj z)
      exact ⟨hh, tk, t, nd, it, tk', .tail _ (.tail _ (.tail _ (.head _))), .head _, .tail _ (.head _)⟩
    · obtain ⟨hh, tk, t, nd, it, tk', x, y, u⟩ := I.dict2 e' k' r' z
      exact ⟨hh, tk, t, nd, it, tk', off _ _ x (dn e' q) (dc e'), X.same _ y cls_tup_ne, X.same _ u cls_tup_ne⟩
  · exact ⟨oC', .tail _ (.tail _ (.tail _ (.tail _ (.head _)))), hC'⟩
  · obtain ⟨ER, x, y⟩ := I.er
    exact ⟨ER, off _ _ x (Ne.symm (G.ddder e)) (Nat.ne_of_lt G.derrlt), y⟩
  · intro j v h
    have h' : valueAt (σ.kvs ++ [((σ.kvs.length : Int), Value.ref row)]) j = some v := h
    rw [valueAt_app] at h'
    show 0 ≤ j ∧ j < ((σ.kvs ++ [((σ.kvs.length : Int), Value.ref row)]).length : Int)
    rw [List.length_append]
    cases q : valueAt σ.kvs j with
    | some u =>
      have := I.keys _ _ q
      simp only [List.length_cons, List.length_nil]
      omega
    | none =>
      rw [q, Option.none_or] at h'
      split at h'
      · rename_i z; subst z; simp only [List.length_cons, List.length_nil]; omega
      · cases h'
  · have := I.count
    have := un_asked (row := row) ha
    show (σ.kvs ++ [((σ.kvs.length : Int), Value.ref row)]).length + _ ≤ 5
    rw [List.length_append]
    simp only [List.length_cons, List.length_nil]
    omega
  · intro j v h
    have h' : valueAt (σ.kvs ++ [((σ.kvs.length : Int), Value.ref row)]) j = some v := h
    rw [valueAt_app] at h'
    cases q : valueAt σ.kvs j with
    | some u =>
      rw [q, Option.some_or] at h'
      cases h'
      obtain ⟨a, o, p, q, r, t⟩ := I.vals _ _ q
      exact ⟨a, o, p, q, off _ _ r (Nat.ne_of_gt (Nat.lt_trans (G.dds e) q)) (Nat.ne_of_gt q), t⟩
    | none =>
      rw [q, Option.none_or] at h'
      split at h'
      · cases h'; exact ⟨row, oR, rfl, rlt, .tail _ (.tail _ (.head _)), dictOf_cls hR⟩
      · cases h'
  · intro e' k' r' a
    rcases old e' _ a with ⟨q, z⟩ | ⟨q, z⟩
    · subst q
      obtain ⟨rfl, rfl⟩ := Prod.mk.inj (Option.some.inj z)
      refine ⟨?_, lo, rlt, oR, .tail _ (.tail _ (.head _)), ?_⟩
      · show valueAt (σ.kvs ++ [((σ.kvs.length : Int), Value.ref r')]) _ = _
        rw [valueAt_app, I.fresh, Option.none_or, if_pos rfl]
      · show oR.IsDictOf (IK w) (σ.row e')
        rw [I.unrow _ ha]; exact hR
    · obtain ⟨x, y, u, o, v, z'⟩ := I.asked e' k' r' z
      refine ⟨?_, y, u, o, off _ _ v (Nat.ne_of_gt (Nat.lt_trans (G.dds e) u)) (Nat.ne_of_gt u), z'⟩
      show valueAt (σ.kvs ++ [((σ.kvs.length : Int), Value.ref row)]) _ = _
      rw [valueAt_app, x, Option.some_or]
  · intro e' a
    rcases old e' _ a with ⟨_, z⟩ | ⟨q, z⟩
    · cases z
    · exact I.unrow e' z
  · intro e1 e2 k1 k2 r1 r2 a1 a2 ne
    rcases old e1 _ a1 with ⟨q1, z1⟩ | ⟨q1, z1⟩
    · rcases old e2 _ a2 with ⟨q2, z2⟩ | ⟨q2, z2⟩
      · exact absurd (q1.trans q2.symm) ne
      · obtain ⟨_, rfl⟩ := Prod.mk.inj (Option.some.inj z1)
        obtain ⟨_, _, _, o, v, _⟩ := I.asked e2 k2 r2 z2
        exact Nat.ne_of_gt (lt _ v)
    · rcases old e2 _ a2 with ⟨q2, z2⟩ | ⟨q2, z2⟩
      · obtain ⟨_, rfl⟩ := Prod.mk.inj (Option.some.inj z2)
        obtain ⟨_, _, _, o, v, _⟩ := I.asked e1 k1 r1 z1
        exact Nat.ne_of_lt (lt _ v)
      · exact I.rowne _ _ _ _ _ _ z1 z2 ne
  · intro e' l j v b h
    exact (I.lits e' l j v b h).mono X
  · intro e' x h
    by_cases q : e' = e
    · subst q; rw [ha] at h; cases h
    · show (if e' = e then _ else σ.ask e') = _
      rw [if_neg q]; exact h
theorem valueAt_map {k j : Int} {v : Value} : ∀ l : List (Int × Value), valueAt (l.map fun kv => if kv.1 = k then (kv.1, v) else kv) j = if j = k then (valueAt l j).map (fun _ => v) else valueAt l j
  | [] => by simp [valueAt]
  | y :: l => by
    have ih := valueAt_map (k := k) (j := j) (v := v) l
    unfold valueAt at ih ⊢
    rw [List.map_cons, List.find?_cons, List.find?_cons]
    by_cases q : y.1 = k
    · rw [if_pos q]
      by_cases z : y.1 = j
      · have : j = k := z.symm.trans q
        simp [z, this]
      · simp only [z, decide_false]; exact ih
    · rw [if_neg q]
      by_cases z : y.1 = j
      · have : ¬ j = k := fun e => q (z.trans e)
        simp [z, this]
      · simp only [z, decide_false]; exact ih
theorem valueAt_stored {kvs : List (Int × Value)} {k j : Int} {v : Value} : valueAt (stored kvs k v) j = if j = k then some v else valueAt kvs j := by
  unfold stored
  split
  · rename_i h
    rw [valueAt_map]
    by_cases z : j = k
    · subst z
      rw [if_pos rfl, if_pos rfl]
      have : (valueAt kvs j).isSome = true := (valueAt_isSome_eq_any kvs j).trans h
      obtain ⟨u, hu⟩ := Option.isSome_iff_exists.mp this
      rw [hu]; rfl
    · rw [if_neg z, if_neg z]
  · rename_i h
    rw [valueAt_app]
    by_cases z : j = k
    · subst z
      have : valueAt kvs j = none := by
        cases q : valueAt kvs j with
        | none => rfl
        | some u =>
          have := valueAt_isSome_eq_any kvs j
          rw [q] at this
          exact absurd this.symm h
      simp [this]
    · rw [if_neg (fun e => z e.symm), if_neg z]
      cases valueAt kvs j <;> rfl
theorem Inv.le {w : World} {c : Ctx} {bz : Ex → Int → Prop} {Bd Bd' : Nat} {M : List (Addr × Obj)} {σ : MSt} (I : Inv w c bz Bd M σ) (h : Bd ≤ Bd') : Inv w c bz Bd' M σ :=
  { I with size := fun e => Nat.le_trans (I.size e) h }
theorem Split.n1' {w : World} {c : Ctx} {e : Ex} {M : List (Addr × Obj)} {σ : MSt} {row : Addr} {oR ER : Obj} {hh : Int} {tk : Tok} {t : Addr} {nd : Nat} {oth : List (Addr × Obj)} (S : Split w c e M σ row oR ER hh tk t nd oth) : ∀ p ∈ (c.dd e, oidsDict hh tk t nd) :: oth, p.1 ≠ row :=
  List.forall_mem_cons.mpr ⟨Ne.symm S.e2, S.n1⟩
theorem Split.n2' {w : World} {c : Ctx} {e : Ex} {M : List (Addr × Obj)} {σ : MSt} {row : Addr} {oR ER : Obj} {hh : Int} {tk : Tok} {t : Addr} {nd : Nat} {oth : List (Addr × Obj)} (S : Split w c e M σ row oR ER hh tk t nd oth) : ∀ p ∈ (c.dd e, oidsDict hh tk t nd) :: oth, p.1 ≠ c.derr :=
  List.forall_mem_cons.mpr ⟨S.e3, S.n2⟩
abbrev bz0 : Ex → Int → Prop := fun _ _ => False
abbrev bzA (e : Ex) (pos : Int) : Ex → Int → Prop := fun e' j => e' = e ∧ j = pos
/-- a row is stored, the rest stays: the end of a match_core that asked -/
theorem mc_fin {w : World} {c : Ctx} {e : Ex} {pos : Int} {Bd : Nat} {new oth : List (Addr × Obj)} {σ : MSt} {kn : Addr → Obj → Prop} {k : Int} {row : Addr} {oR ER o' ER' : Obj} {hh : Int} {tk : Tok} {t : Addr} {nd : Nat} {r : Value} {Res : (Addr → Obj → Prop) → Value → Prop} (G : Gnd c kn)
    (S : Split w c e new σ row oR ER hh tk t nd oth) (I : Inv w c (bzA e pos) Bd new σ) (ha : σ.ask e = some (k, row)) (R : Res (Mem new) r) (hext : ∀ kn kn' r, KExt kn kn' → Res kn r → Res kn' r)
    (hlv : e = .P ∨ e = .Q ∨ e = .T → ∀ kn r, Res kn r → LitVal kn c e pos r) (d : o'.IsDictOf (IK w) (stored (σ.row e) pos r)) (hE : ErOk c ER') :
    Inv w c bz0 (Bd + 1) ((row, o') :: (c.derr, ER') :: (c.dd e, oidsDict hh tk t nd) :: oth) (σ.put e (stored (σ.row e) pos r)) ∧ Ext new ((row, o') :: (c.derr, ER') :: (c.dd e, oidsDict hh tk t nd) :: oth) ∧ σ.Le (σ.put e (stored (σ.row e) pos r)) ∧
      Res (Mem ((row, o') :: (c.derr, ER') :: (c.dd e, oidsDict hh tk t nd) :: oth)) r := by
  have sub : ∀ p ∈ new, p ∈ (row, oR) :: (c.derr, ER) :: (c.dd e, oidsDict hh tk t nd) :: oth := fun p hp => (S.iff p).mp hp
  have I' := I.congr sub
  obtain ⟨a, b, f⟩ := Inv.put (bz' := bz0) (Bd' := Bd + 1) G I' ha S.n1' S.n2' S.e1 S.dict S.er d hE (by
    intro hl j v _ hv
    rw [valueAt_stored] at hv
    split at hv
    · rename_i q
      subst q
      cases hv
      exact hlv hl _ _ (hext _ _ _ (Ext.of_sub sub).mem R)
    · rename_i q
      exact I'.lits e hl j v (fun z => q z.2) hv) (fun e' j ne _ z => ne z.1) (Nat.le_trans stored_length (Nat.succ_le_succ (I.size e))) (Nat.le_succ _)
  have X := (Ext.of_sub sub).trans b
  exact ⟨a, X, f, hext _ _ _ X.mem R⟩
/-- only the error moved: the end of a match_core that found its row -/
theorem mc_finH {w : World} {c : Ctx} {e : Ex} {Bd : Nat} {new oth : List (Addr × Obj)} {σ : MSt} {kn : Addr → Obj → Prop} {k : Int} {row : Addr} {oR ER ER' : Obj} {hh : Int} {tk : Tok} {t : Addr} {nd : Nat} {r : Value} {Res : (Addr → Obj → Prop) → Value → Prop} (G : Gnd c kn)
    (S : Split w c e new σ row oR ER hh tk t nd oth) (I : Inv w c bz0 Bd new σ) (ha : σ.ask e = some (k, row)) (R : Res (Mem new) r) (hext : ∀ kn kn' r, KExt kn kn' → Res kn r → Res kn' r) (hE : ErOk c ER') :
    Inv w c bz0 Bd ((row, oR) :: (c.derr, ER') :: (c.dd e, oidsDict hh tk t nd) :: oth) (σ.put e (σ.row e)) ∧ Ext new ((row, oR) :: (c.derr, ER') :: (c.dd e, oidsDict hh tk t nd) :: oth) ∧ σ.Le (σ.put e (σ.row e)) ∧
      Res (Mem ((row, oR) :: (c.derr, ER') :: (c.dd e, oidsDict hh tk t nd) :: oth)) r := by
  have sub : ∀ p ∈ new, p ∈ (row, oR) :: (c.derr, ER) :: (c.dd e, oidsDict hh tk t nd) :: oth := fun p hp => (S.iff p).mp hp
  have I' := I.congr sub
  obtain ⟨a, b, f⟩ := Inv.put (bz' := bz0) (Bd' := Bd) G I' ha S.n1' S.n2' S.e1 S.dict S.er S.dict hE (fun hl j v _ hv => I'.lits e hl j v (fun h => h) hv) (fun _ _ _ h => h) (I.size e) (Nat.le_refl _)
  have X := (Ext.of_sub sub).trans b
  exact ⟨a, X, f, hext _ _ _ X.mem R⟩
theorem leave_join {h₀ g h h' h'' : Heap} {L L' : Addr} {M rest new : List (Addr × Obj)} (N : News h₀ L h (M ++ rest)) (R : ∀ p ∈ rest, g.get? p.1 = some p.2) (st : g.StaysIn h') (Nh : News h₀ L h' new) (Ng : News g L' h'' new) :
    News h₀ L h' (new ++ rest) ∧ ∀ p ∈ new, ∀ q ∈ rest, p.1 ≠ q.1 :=
  ⟨news_join N R st Nh, fun p hp q hq e => fresh_ne R Ng (a := p.1) (o := p.2) hp q hq e.symm⟩
theorem split2 {g h : Heap} {L : Addr} {M : List (Addr × Obj)} {a b : Addr} {o1 o2 : Obj} (N : News g L h M) (m1 : (a, o1) ∈ M) (m2 : (b, o2) ∈ M) (ne : a ≠ b) :
    ∃ oth, (∀ p, p ∈ M ↔ p ∈ (a, o1) :: (b, o2) :: oth) ∧ (∀ p ∈ oth, p.1 ≠ a) ∧ ∀ p ∈ oth, p.1 ≠ b := by
  obtain ⟨M1, i1, f1⟩ := take1 (news_uniq N) m1
  have m2' : (b, o2) ∈ M1 := ((List.mem_cons.mp ((i1 _).mp m2)).resolve_left fun z => ne (congrArg Prod.fst z).symm)
  obtain ⟨M2, i2, f2⟩ := take1 (news_uniq (News.sub N fun p hp => (i1 p).mpr (.tail _ hp))) m2'
  refine ⟨M2, fun p => ?_, fun p hp => f1 p ((i2 p).mpr (.tail _ hp)), f2⟩
  rw [i1, List.mem_cons, i2]; simp only [List.mem_cons]
end Mine
end
section
open PySem PySem.W PyProof.Rows PySem.Calls PySem.Spec
set_option Elab.async false
set_option maxRecDepth 100000
set_option maxHeartbeats 1000000
namespace Mine
theorem Items.map {kn kn' : Addr → Obj → Prop} (k : ∀ a o, kn a o → kn' a o) {its : List Addr} {l : List (Int × Addr)} (h : Items kn its l) : Items kn' its l := by
  induction h with
  | nil => exact .nil
  | cons a b d _ ih => exact .cons (k _ _ a) (k _ _ b) d ih
theorem Gnd.at {c : Ctx} {h₀ g : Heap} {rest : List (Addr × Obj)} (G : Gnd c (Kn h₀ rest)) (st : h₀.StaysIn g) (R : ∀ p ∈ rest, g.get? p.1 = some p.2) : Gnd c (Kn g []) where
  imm e := .inl ((G.imm e).at st R)
  tR := .inl (G.tR.at st R)
  tS := .inl (G.tS.at st R)
  err := .inl (G.err.at st R)
  told e h := .inl ((G.told e h).at st R)
  its e := (G.its e).map fun _ _ a => .inl (a.at st R)
  small := G.small
  dds := G.dds
  derrlt := G.derrlt
  ddne := G.ddne
  ddder := G.ddder
  lo := G.lo
theorem Kn.g {g : Heap} {a : Addr} {o : Obj} (h : Kn g [] a o) : g.get? a = some o := h.elim id (fun h => nomatch h)
theorem Fr.eqm {h₀ h : Heap} {L : Addr} {m m' : Str → Option Value} (F : Fr h₀ L h m) (e : ∀ y, m y = m' y) : Fr h₀ L h m' := (funext e : m = m') ▸ F
theorem look1 {y a : Str} {v : Value} {l : List (Str × Value)} : List.lookup y ((a, v) :: l) = if y = a then some v else List.lookup y l := by
  by_cases h : y = a
  · subst h; rw [if_pos rfl, List.lookup_cons, beq_self_eq_true]
  · rw [if_neg h, List.lookup_cons, beq_eq_false_iff_ne.mpr h]
theorem look5 {y a1 a2 a3 a4 a5 : Str} {v1 v2 v3 v4 v5 : Value} : List.lookup y [(a1, v1), (a2, v2), (a3, v3), (a4, v4), (a5, v5)] = if y = a1 then some v1 else if y = a2 then some v2 else if y = a3 then some v3 else if y = a4 then some v4 else if y = a5 then some v5 else none := by
  rw [look1, look1, look1, look1, look1]; rfl
/-- the names of match_core behind its loop -/
abbrev mP (x text pos cache err : Value) (ov ev : Option Value) : Str → Option Value := fun y => if y = Str.ofString "expr_cache" then ev else if y = Str.ofString "oid" then ov else if y = Str.ofString "error" then some err else if y = Str.ofString "cache" then some cache else
  if y = Str.ofString "pos" then some pos else if y = Str.ofString "text" then some text else if y = Str.ofString "self" then some x else none
theorem ne_names : Str.ofString "error" ≠ Str.ofString "oid" ∧ Str.ofString "error" ≠ Str.ofString "expr_cache" ∧ Str.ofString "oid" ≠ Str.ofString "expr_cache" ∧ Str.ofString "cache" ≠ Str.ofString "oid" ∧ Str.ofString "cache" ≠ Str.ofString "expr_cache" ∧ Str.ofString "pos" ≠ Str.ofString "oid" ∧ Str.ofString "pos" ≠ Str.ofString "expr_cache" ∧
    Str.ofString "text" ≠ Str.ofString "oid" ∧ Str.ofString "text" ≠ Str.ofString "expr_cache" ∧ Str.ofString "self" ≠ Str.ofString "oid" ∧ Str.ofString "self" ≠ Str.ofString "expr_cache" := by decide +kernel
theorem mP_bind {x text pos cache err : Value} (y : Str) : List.lookup y [(Str.ofString "error", err), (Str.ofString "cache", cache), (Str.ofString "pos", pos), (Str.ofString "text", text), (Str.ofString "self", x)] = mP x text pos cache err none none y := by
  rw [look5]
  by_cases h1 : y = Str.ofString "expr_cache"
  · subst h1
    unfold mP
    rw [if_pos rfl]
    obtain ⟨a, b, c, d, e, f, g, h, i, j, k⟩ := ne_names
    rw [if_neg b.symm, if_neg e.symm, if_neg g.symm, if_neg i.symm, if_neg k.symm]
  by_cases h2 : y = Str.ofString "oid"
  · subst h2
    unfold mP
    obtain ⟨a, b, c, d, e, f, g, h, i, j, k⟩ := ne_names
    rw [if_neg c, if_pos rfl, if_neg a.symm, if_neg d.symm, if_neg f.symm, if_neg h.symm, if_neg j.symm]
  unfold mP
  rw [if_neg h1, if_neg h2]
theorem mP_set {x text pos cache err : Value} {ov ev : Option Value} {v : Value} (y : Str) : (if y = Str.ofString "expr_cache" then some v else mP x text pos cache err ov ev y) = mP x text pos cache err ov (some v) y := by
  unfold mP
  split <;> rfl
theorem mP_set2 {x text pos cache err : Value} {ov ev : Option Value} {u v : Value} (y : Str) : (if y = Str.ofString "expr_cache" then some v else if y = Str.ofString "oid" then some u else mP x text pos cache err ov ev y) = mP x text pos cache err (some u) (some v) y := by
  unfold mP
  split
  · rfl
  · split <;> rfl
theorem turns_ind {prog : Program} {w : World} {A : Around} {E : Value → Shared → Prop} {g : Heap} {env : Env} {target : Expr} {body orelse : List Stmt} {Q : Flow → Shared → Prop} {I ax : Addr} {items : Array Value} {G : Array GenState} {D : Drawn} {O : OsState}
    {news : List (Addr × Obj)} (mm : Option Value → Option Value → Str → Option Value)
    (last : ∀ i ov ev, TupTurns prog w A E g env target body orelse Q I ax items G D O [] i (mm ov ev) news)
    (step : ∀ it k row0 o0 tk (r : List Value) i ov ev, g.get? it = some (tupObj #[.int k tk, .ref row0]) → g.get? row0 = some o0 → (∀ ov' ev', TupTurns prog w A E g env target body orelse Q I ax items G D O r (i + 1) (mm ov' ev') news) →
      TupTurns prog w A E g env target body orelse Q I ax items G D O (.ref it :: r) i (mm ov ev) news) :
    ∀ {its : List Addr} {l : List (Int × Addr)}, Items (Kn g []) its l → ∀ i ov ev, TupTurns prog w A E g env target body orelse Q I ax items G D O (its.map Value.ref) i (mm ov ev) news := by
  intro its l h
  induction h with
  | nil => exact fun i ov ev => last i ov ev
  | cons a b _ _ ih =>
    intro i ov ev
    exact step _ _ _ _ _ _ _ _ _ a.g b.g fun ov' ev' => ih (i + 1) ov' ev'
/-- a contract in use: the whole ledger is given -/
theorem Gives.use {w : World} {c : Ctx} {f : Addr} {e : Ex} {pos : Int} {dep cost : Nat} {bz : Ex → Int → Prop} {Pre : MSt → Prop} {Post : MSt → MSt → Prop} {Res : (Addr → Obj → Prop) → Value → Prop} (hg : Gives w c f e pos dep cost bz Pre Post Res)
    {dp un : Nat} {gd : Option (List Code)} {cn : Str} {sn : List (Str × NameKind)} {sg sc : Bool} {sm : List (Str × Const)} {a : Addr} {ccd : Value} {cl : List (Str × Addr)} {outer : List Env} {A₀ : Around} {base h₀ : Heap} {L : Addr} {m : Str → Option Value} {s : Shared}
    {p : Program} {loose : List Str} {mean : ExcName → Option Value} {mg mb : Str → Option Value} {Q E : Value → Shared → Prop} {news : List (Addr × Obj)} {tp : Tok} {pos' : Int}
    (B : Below A₀ base outer h₀) (F : Fr h₀ L s.heap m) (X : (hd.heap_39 w.params).In h₀) (T : Top p loose mean mg mb h₀) (hd : dp + dep + 30 < recursionLimit) (hu : un + 10 * dep + 300 < cLine)
    (N : News h₀ L s.heap news) (hpos : pos' = pos)
    (h : ∃ M rest σ Bd, (∀ p ∈ M ++ rest, p ∈ news) ∧ (∀ p ∈ M, ∀ q ∈ rest, p.1 ≠ q.1) ∧ Gnd c (Kn h₀ rest) ∧ Inv w c bz Bd M σ ∧ Bd + cost ≤ 100000 ∧ Pre σ ∧
      ∀ r new σ' h' tk', Fr h₀ L h' m → News h₀ L h' (new ++ rest) → (∀ p ∈ new, ∀ q ∈ rest, p.1 ≠ q.1) → Ext M new → Inv w c bz (Bd + cost) new σ' → σ.Le σ' → Post σ σ' → Res (Mem new) r → Q r ⟨h', s.gens, s.drawn, tk', s.os⟩) :
    wpAny (model PR w) (ktrTop dp un gd cn ⟨.function, sn, sg, sc, sm⟩ L a ccd cl outer) (call (.ref f) [.ref (c.ad e), c.text, .int pos' tp, .ref c.cache, .ref c.err]) Q E s := by
  subst hpos
  obtain ⟨M, rest, σ, Bd, h1, h2, h3, h4, h5, h6, h7⟩ := h
  exact hg.go B F X T hd hu (News.sub N h1) h2 h3 h4 h5 h6 h7
theorem ErOk.mk {c : Ctx} {h1 h2 h3 : Int} {k1 k2 k3 : Tok} {tx : Value} {pos : Int} {tp : Tok} {e : Ex} {ne : Nat} (hp : 0 ≤ pos) (hp2 : pos ≤ 1000) : ErOk c (dictOf (erL h1 h2 h3 k1 k2 k3 tx (.int pos tp) (.ref (c.ad e))) ne) :=
  ⟨h1, h2, h3, k1, k2, k3, tx, pos, tp, _, ne, rfl, by omega, hp2, .inr ⟨e, rfl⟩⟩
theorem exb {c : Ctx} {g : Heap} {e' : Ex} (G : Gnd c (Kn g [])) (h : ∃ C sl nm tk, (C = 367 ∨ C = 425 ∨ C = 451) ∧ c.ob e' = ⟨.ref C, some (c.dd e'), .plain, sl⟩ ∧ (sl[2]?).join = some (.str nm tk)) : ExB g (c.ad e') (c.dd e') := by
  obtain ⟨C, sl, nm, tk, a, b, d⟩ := h
  exact ⟨C, sl, nm, tk, a, b ▸ (G.imm e').g, d⟩
theorem Inv.dd {w : World} {c : Ctx} {bz : Ex → Int → Prop} {Bd : Nat} {M : List (Addr × Obj)} {σ : MSt} (I : Inv w c bz Bd M σ) (e : Ex) : ∃ od, (c.dd e, od) ∈ M := by
  cases q : σ.ask e with
  | none =>
    by_cases z : c.old e = []
    · exact ⟨_, I.dict0 e q z⟩
    · obtain ⟨_, _, _, x⟩ := I.dict1 e q z; exact ⟨_, x⟩
  | some kr =>
    obtain ⟨_, _, _, _, _, _, x, _⟩ := I.dict2 e kr.1 kr.2 q; exact ⟨_, x⟩
/-- any expression's dict lies behind row and error -/
theorem ddin {w : World} {c : Ctx} {e : Ex} {bz : Ex → Int → Prop} {Bd : Nat} {M : List (Addr × Obj)} {σ : MSt} {kn : Addr → Obj → Prop} {k : Int} {row : Addr} {oR ER : Obj} {hh : Int} {tk : Tok} {t : Addr} {nd : Nat} {oth : List (Addr × Obj)} (G : Gnd c kn)
    (I : Inv w c bz Bd M σ) (ha : σ.ask e = some (k, row)) (S : Split w c e M σ row oR ER hh tk t nd oth) (e' : Ex) : ∃ od, (c.dd e', od) ∈ (c.dd e, oidsDict hh tk t nd) :: oth := by
  obtain ⟨od, h⟩ := I.dd e'
  have lt := (I.asked e k row ha).2.2.1
  rcases List.mem_cons.mp ((S.iff _).mp h) with q | q
  · exact absurd (congrArg Prod.fst q) (Nat.ne_of_lt (Nat.lt_trans (G.dds e') lt))
  · rcases List.mem_cons.mp q with q | q
    · exact absurd (congrArg Prod.fst q) (G.ddder e')
    · exact ⟨od, q⟩
theorem add_oids {prog : Program} {w : World} {A : Around} {E : Value → Shared → Prop} {s : Shared} {h₀ : Heap} {L t b it : Addr} {its : List Addr} {m : Str → Option Value} {news : List (Addr × Obj)} {Q : Value → Shared → Prop} (F : Fr h₀ L s.heap m) (N : News h₀ L s.heap news)
    (ht : IsTup s.heap t #[.ref it]) (hb : IsTup s.heap b (titems its)) (hne : its ≠ []) (hz : its.length ≤ 100)
    (h : ∀ D h', Fr h₀ L h' m → News h₀ L h' ((D, tupObj (titems (it :: its))) :: news) → (∀ p ∈ news, p.1 < D) → Q (.ref D) { s with heap := h' }) : wpAny (model prog w) A (binaryOp .Add (.ref t) (.ref b)) Q E s :=
  kde_addT (zs := .ref it :: its.map Value.ref) F N ht hb (List.cons_ne_nil _ _) (by intro q; exact hne (List.map_eq_nil_iff.mp q)) (by show 1 + (its.map Value.ref).length ≤ 16384; rw [List.length_map]; omega) rfl h
theorem valLen {l : List (Int × Value)} {x : Int × Value} : (((l ++ [x]).length : Nat) : Int) - 1 = (l.length : Int) := by
  rw [List.length_append]; simp
theorem allLt_in {d : Nat} : ∀ {l : List (Addr × Obj)}, AllLt d l → ∀ p ∈ l, @LT.lt Nat _ p.1 d
  | [], _, _, h => nomatch h
  | _ :: _, h, p, hp => by
    rcases List.mem_cons.mp hp with rfl | hp
    · exact h.1
    · exact allLt_in h.2 p hp
section
variable {w : World} {c : Ctx} {bz : Ex → Int → Prop} {Bd : Nat} {M oth : List (Addr × Obj)} {σ : MSt} {e : Ex} {row t t1 t00 it L x0 : Addr} {D oC oC' oR o1 o2 : Obj} {hh i : Int} {tk tk' tp : Tok} {nd tkk : Nat} {g h : Heap} {m' : Str → Option Value} {ov : Option Value} {Gs : Array GenState} {Dr : Drawn} {O : OsState} {x text pos cache err : Value}
theorem ask_finP (G : Gnd c (Kn g [])) (I : Inv w c bz Bd M σ) (ha : σ.ask e = none) (iff : ∀ p, p ∈ M ↔ p ∈ (c.dd e, D) :: (c.cache, oC) :: oth) (hD : D.cls = .type "dict") (hC : oC.cls = .type "dict")
    (F : Fr g L h m') (hm : ∀ y, m' y = mP x text pos cache err ov (some (.ref row)) y)
    (N : News g L h ((t, tupObj (titems (it :: c.its e))) :: (t1, o1) :: (it, tupObj #[.int i tk', .ref row]) :: (row, oR) :: (t00, o2) :: (c.dd e, oidsDict hh tk t nd) :: (c.cache, oC') :: oth)) (hi : i = (σ.kvs.length : Int))
    (hR : oR.IsDictOf (IK w) []) (hC' : oC'.IsDictOf (IK w) (σ.kvs ++ [((σ.kvs.length : Int), .ref row)])) (lo : (row == sysModules) = false) (l1 : @LT.lt Nat _ (c.dd e) row) (l2 : @LT.lt Nat _ c.cache row) (l3 : AllLt row oth) :
    ∃ h'' tk'' ov σ₁ k row M₁, (⟨h, Gs, Dr, tkk, O⟩ : Shared) = ⟨h'', Gs, Dr, tk'', O⟩ ∧ Fr g L h'' (mP x text pos cache err ov (some (.ref row))) ∧ News g L h'' M₁ ∧ Inv w c bz Bd M₁ σ₁ ∧ σ₁.ask e = some (k, row) ∧ σ₁.row = σ.row ∧ σ.Le σ₁ ∧ Ext M M₁ := by
  subst hi
  obtain ⟨a, b, d⟩ := Inv.ask (t := t) (it := it) (tk' := tk') (hh := hh) (tk := tk) (nd := nd) G (I.congr fun p hp => (iff p).mp hp) ha hD hC hR hC' lo (by
    simp only [List.forall_mem_cons]; exact ⟨l1, l2, allLt_in l3⟩)
  have key : ∀ M₁, Inv w c bz Bd M₁ (σ.asked e row) → Ext M M₁ → News g L h M₁ → ∃ h'' tk'' ov σ₁ k row M₁, (⟨h, Gs, Dr, tkk, O⟩ : Shared) = ⟨h'', Gs, Dr, tk'', O⟩ ∧ Fr g L h'' (mP x text pos cache err ov (some (.ref row))) ∧ News g L h'' M₁ ∧ Inv w c bz Bd M₁ σ₁ ∧ σ₁.ask e = some (k, row) ∧ σ₁.row = σ.row ∧ σ.Le σ₁ ∧ Ext M M₁ := by
    intro M₁ x y z
    refine ⟨h, tkk, ov, σ.asked e row, (σ.kvs.length : Int), row, M₁, rfl, Fr.eqm F hm, z, x, ?_, rfl, d, y⟩
    show (if e = e then _ else _) = _
    rw [if_pos rfl]
  refine key _ a ((Ext.of_sub fun p hp => (iff p).mp hp).trans b) (News.sub N ?_)
  simp only [List.forall_mem_cons]
  exact ⟨.head _, .tail _ (.tail _ (.head _)), .tail _ (.tail _ (.tail _ (.head _))), .tail _ (.tail _ (.tail _ (.tail _ (.tail _ (.head _))))), .tail _ (.tail _ (.tail _ (.tail _ (.tail _ (.tail _ (.head _)))))),
    fun p hp => .tail _ (.tail _ (.tail _ (.tail _ (.tail _ (.tail _ (.tail _ hp))))))⟩
theorem ask_fin0 (G : Gnd c (Kn g [])) (I : Inv w c bz Bd M σ) (ha : σ.ask e = none) (iff : ∀ p, p ∈ M ↔ p ∈ (c.dd e, D) :: (c.cache, oC) :: oth) (hD : D.cls = .type "dict") (hC : oC.cls = .type "dict") (hits : c.its e = [])
    (F : Fr g L h m') (hm : ∀ y, m' y = mP x text pos cache err ov (some (.ref row)) y)
    (N : News g L h ((t1, o1) :: (t, tupObj #[.ref it]) :: (it, tupObj #[.int i tk', .ref row]) :: (row, oR) :: (t00, o2) :: (c.dd e, oidsDict hh tk t nd) :: (c.cache, oC') :: oth)) (hi : i = (σ.kvs.length : Int))
    (hR : oR.IsDictOf (IK w) []) (hC' : oC'.IsDictOf (IK w) (σ.kvs ++ [((σ.kvs.length : Int), .ref row)])) (lo : (row == sysModules) = false) (l1 : @LT.lt Nat _ (c.dd e) row) (l2 : @LT.lt Nat _ c.cache row) (l3 : AllLt row oth) :
    ∃ h'' tk'' ov σ₁ k row M₁, (⟨h, Gs, Dr, tkk, O⟩ : Shared) = ⟨h'', Gs, Dr, tk'', O⟩ ∧ Fr g L h'' (mP x text pos cache err ov (some (.ref row))) ∧ News g L h'' M₁ ∧ Inv w c bz Bd M₁ σ₁ ∧ σ₁.ask e = some (k, row) ∧ σ₁.row = σ.row ∧ σ.Le σ₁ ∧ Ext M M₁ := by
  refine ask_finP (t := t) (t1 := t1) (t00 := t00) (o1 := o1) (o2 := o2) (hh := hh) (tk := tk) (nd := nd) (it := it) (tk' := tk') G I ha iff hD hC F hm (News.sub N ?_) hi hR hC' lo l1 l2 l3
  rw [hits]
  simp only [List.forall_mem_cons]
  exact ⟨.tail _ (.head _), .head _, .tail _ (.tail _ (.head _)), .tail _ (.tail _ (.tail _ (.head _))), .tail _ (.tail _ (.tail _ (.tail _ (.head _)))), .tail _ (.tail _ (.tail _ (.tail _ (.tail _ (.head _))))), .tail _ (.tail _ (.tail _ (.tail _ (.tail _ (.tail _ (.head _)))))),
    fun p hp => .tail _ (.tail _ (.tail _ (.tail _ (.tail _ (.tail _ (.tail _ hp))))))⟩
end
theorem set_oids {w : World} {A : Around} {E : Value → Shared → Prop} {s : Shared} {K : Frag} {x C dx L : Addr} {h₀ : Heap} {m : Str → Option Value} {news news' : List (Addr × Obj)} {ox : Obj} {hh : Int} {tk : Tok} {t D : Addr} {n : Nat} {Q : Unit → Shared → Prop} {prog : Program}
    (F : Fr h₀ L s.heap m) (X₀ : K.In h₀) (N : News h₀ L s.heap news) (I : InstAt s.heap x ox C (some (oidsDict hh tk t n))) (hd : ox.dict = some dx)
    (hs : findIn K (.ref C) "__setattr__" = some (some (.builtin "object.__setattr__"))) (hp : plainOver K C = true) (ht : takerIn K C (Str.ofString "oids") = some none) (hh' : hasDictIn K C = true)
    (U : Upd dx (oidsDict hh tk t n) (oidsDict hh tk D n) news news')
    (h : ∀ h', Fr h₀ L h' m → News h₀ L h' news' → Q () { s with heap := h', toks := s.toks + 2 }) :
    wpAny (model prog w) A (setAttr (.ref x) (Str.ofString "oids") (.ref D)) Q E s := by
  refine set_dict F X₀ N I hd hs hp ht hh' rfl ?_ U ?_ h
  · with_unfolding_all rfl
  · show 1 ≤ 1000; decide
theorem Items.nil_of {kn : Addr → Obj → Prop} {its : List Addr} {l : List (Int × Addr)} (h : Items kn its l) : its = [] ↔ l = [] := by
  cases h
  · simp
  · simp
theorem drop2 {a b : Addr × Obj} {r : List (Addr × Obj)} : ∀ p ∈ a :: r, p ∈ a :: b :: r := fun _ h => (List.mem_cons.mp h).elim (fun q => q ▸ .head _) fun q => .tail _ (.tail _ q)
theorem allLt_lt {d e : Nat} {l : List (Addr × Obj)} (h : AllLt d l) (k : @LT.lt Nat _ d e) : ∀ p ∈ l, p.1 ≠ e := fun p hp => Nat.ne_of_lt (Nat.lt_trans (allLt_in h p hp) k)
theorem truthy_its {prog : Program} {w : World} {A : Around} {E : Value → Shared → Prop} {s : Shared} {h₀ : Heap} {L l : Addr} {news : List (Addr × Obj)} {its : Array Value} {ep : Nat} {Q : Bool → Shared → Prop} (N : News h₀ L s.heap news) (m : (l, listOf its ep) ∈ news)
    (hne : its.isEmpty = false) (hz : its.size ≤ 100) (h : Q true { s with toks := s.toks + 1 + 1 }) : wpAny (model prog w) A (truthy (.ref l)) Q E s :=
  wpAny_truthy_list (items := its) (News.isList N m) (by omega) (by rw [hne]; exact h)
end Mine
end
section
open PySem PySem.W PyProof.Rows PySem.Calls PySem.Spec
set_option Elab.async false
set_option maxRecDepth 100000
set_option maxHeartbeats 8000000
namespace Mine
theorem prime_mc451 : (fun (_ : OpenLaw) (_ : Params → Frag) => True) PySem.Challenge.rw_vj0018_01 hd.heap_39 := by
  w_top off
  k_fill
  trivial
local macro_rules | `(tactic| k_room) => `(tactic| first
  | ((try simp only [depth_mark, depth_under_make, depth_under_kw, depth_in1, depth_deeper, depth_caller]); decide)
  | ((try simp only [depth_mark, depth_under_make, depth_under_kw, depth_in1, depth_deeper, depth_caller]); (try dsimp only [ktrTop]); (simp only [recursionLimit] at *); omega))
local macro_rules | `(tactic| k_units) => `(tactic| first
  | exact Nat.le_of_ble_eq_true rfl
  | (have hcL9 := cLine_is; (try simp only [units_in1, units_deeper, Around.mark_units, units_caller] at *); (try dsimp only [ktrTop] at *); omega))
local macro_rules | `(tactic| walk_at "call ref") => `(tactic| (k_here; ks_any; k_dflt (
   (refine' call_cls ?k1 ?k2 ?k3 ?k4 ?k5 ?k6 ?_; (case k1 => k_asm); (case k2 => k_asm); (case k3 => k_asm); (case k4 => k_is); (case k5 => k_is); (case k6 => k_is); intro x' d' h' F' N' l1 l2; (try k_lt l1); (try k_lt2 l2);
    (refine' ks_code_super ?k1 ?k2 ?k3 ?k4 ?k5 ?kA ?kF ?kK ?k6 ?k7 ?k8 ?k9 ?kB ?_ ?c1 ?c2 ?c3 ?c4; (case kA => exact rfl); (case kF => exact rfl); (case kK => exact rfl); (case k1 => k_asm); (case k2 => k_asm); (case k3 => k_asm); (case k4 => k_asm); (case k5 => k_asm); (case k6 => k_is); (case k7 => k_is); (case k8 => k_room); (case k9 => exact binds_K (by k_in) rfl (by k_is) rfl rfl rfl); (case kB => exact locs rfl); (case c1 => decide); (case c2 => exact rfl); (case c3 => exact rfl); (case c4 => exact rfl); intro g' L' h' FG' F' N' B' X' T' l1; (try k_lt l1); (try dsimp only); (try k_lift B'))))))
local macro_rules | `(tactic| k_inst) => `(tactic| first
  | (refine' InstAt.of_news ?N ?h1 ?h2; (case N => k_asm); (case h1 => k_mem); (case h2 => k_mem))
  | (refine' instB ?F ?h1 ?N ?h2; (case F => k_asm); (case h1 => assumption); (case N => k_asm); (case h2 => k_mem))
  | (refine' instBB ?F ?h1 ?h2; (case F => k_asm); (case h1 => assumption); (case h2 => assumption)))
local macro_rules | `(tactic| walk_at "call builtin:getattr") => `(tactic| (k_here; (with_reducible show wpAny _ _ (call (Value.builtin _) [Value.ref _, Value.str _ _, _]) _ _ _); k_dflt (first
  | (refine' ga3_own ?F ?X ?I ?g ?hh ?ha ?hn ?hl ?hv ?hm ?nm ?_; (case I => k_inst); (case F => k_asm); (case X => k_asm); (case g => k_is); (case hh => k_is); (case ha => k_is); (case hn => k_is); (case hl => k_get); (case hv => k_handed); (case hm => k_is); (case nm => decide); k_whole)
  | (refine' ga3_no ?F ?X ?N ?I ?hA ?g ?hh ?ha ?hl ?hm ?nm ?hc ?hcn ?cp ?ms ?_; (case I => k_inst); (case F => k_asm); (case X => k_asm); (case N => k_asm); (case hA => exact rfl); (case g => k_is); (case hh => k_is); (case ha => k_is); (case hl => k_get); (case hm => k_is); (case nm => decide); (case hc => k_is); (case hcn => decide +kernel); (case cp => decide +kernel); (case ms => decide +kernel); k_whole; intro h' tk' F' N'; (try k_sweep)))))
local macro_rules | `(tactic| walk_at "call builtin:len") => `(tactic| (k_here; (with_reducible show wpAny _ _ (call (Value.builtin "len") [Value.ref _]) _ _ _); k_dflt (refine' kda_len (knd := PySem.intKind _ _) ?N ?m ?d ?lo ?fit ?_; (case N => k_asm); (case m => k_mem); (case d => assumption); (case lo => assumption); (case fit => first | omega | (simp only [List.length_append, List.length_cons, List.length_nil]; omega)); k_whole)))
local macro_rules | `(tactic| walk_at "setItem ref int") => `(tactic| (k_here; k_dflt (refine' kda_set (knd := PySem.intKind _ _) ?F ?N ?U ?d (intKind_is _ _ _ _) ?z ?_; (case F => k_asm); (case N => k_asm); (case U => k_updF); (case d => assumption); (case z => (rw [sizeLine_eq]; first | omega | (simp only [List.length_append, List.length_cons, List.length_nil]; omega))); k_whole); intro h' o' F' N' hd'; (try dsimp only at N'); (try rw [stored_new (by assumption)] at hd'); (try k_sweep)))
local macro_rules | `(tactic| walk_at "compareOp In int ref") => `(tactic| (k_here; k_dflt (first
  | (refine' mp_in0 (knd := PySem.intKind _ _) ?N ?m ?d ?lo (intKind_is _ _ _ _) ?hl ?_; (case N => k_asm); (case m => k_mem); (case d => assumption); (case lo => assumption); (case hl => assumption); k_whole)
  | (refine' mp_in1 (knd := PySem.intKind _ _) ?N ?m ?d ?lo (intKind_is _ _ _ _) ?hl ?_; (case N => k_asm); (case m => k_mem); (case d => assumption); (case lo => assumption); (case hl => assumption); k_whole))))
local macro_rules | `(tactic| walk_at "subscriptTail") => `(tactic| (k_here; (with_reducible show wpAny _ _ (subscriptTail _ _ (Value.ref _) (Value.int _ _)) _ _ _); k_dflt (refine' kda_item (knd := PySem.intKind _ _) ?N ?m ?d (intKind_is _ _ _ _) ?hl ?_ ?hs ?hg; (case N => k_asm); (case m => k_mem); (case d => assumption); (case hl => assumption); (case hs => with_unfolding_all rfl); (case hg => (intro _; with_unfolding_all rfl)); k_whole)))
local macro_rules | `(tactic| walk_at "getMethod ref") => `(tactic| (k_here; (with_reducible show wpAny _ _ (getMethod (Value.ref _) (Str.ofString "get") _) _ _ _); k_dflt (refine' kdg_method (knd := PySem.intKind _ _) ?N ?m ?d ?_; (case N => k_asm); (case m => k_mem); (case d => assumption); k_whole)))
local macro_rules | `(tactic| walk_at "call builtin:dict.get") => `(tactic| (k_here; k_dflt (refine' kdg_get1 (knd := PySem.intKind _ _) ?N ?m ?d ?lo (intKind_is _ _ _ _) _ ?hl ?_; (case N => k_asm); (case m => k_mem); (case d => assumption); (case lo => assumption); (case hl => assumption); k_whole); (try dsimp only [Option.getD])))
local macro_rules | `(tactic| walk_at "getAttr ref") => `(tactic| (k_here; k_dflt (refine' exc_getK ?F ?X ?I ?ga ?gt ?hb ?hh ?ha ?hn ?hl ?hv ?_; (case I => (first | (refine' instE ?iN ?i1 ?i2; (case iN => k_asm); (case i1 => k_mem); (case i2 => k_mem)) | (refine' instEB ?iF ?i1 ?iN ?i2; (case iF => k_asm); (case i1 => assumption); (case iN => k_asm); (case i2 => k_mem)))); (case F => k_asm); (case X => k_asm); (case ga => k_is); (case gt => k_is); (case hb => k_is); (case hh => k_is); (case ha => k_is); (case hn => k_is); (case hl => k_get); (case hv => k_handed); k_whole)))
local macro_rules | `(tactic| walk_at "setAttr ref") => `(tactic| (k_here; k_dflt (first
  | (refine' exc_setK ?F ?X ?N ?I ?hd ?hs ?hc ?hp ?hdd ?ho ?ht ?hl ?e ?U ?hz ?_; (case I => (first | (refine' instE ?iN ?i1 ?i2; (case iN => k_asm); (case i1 => k_mem); (case i2 => k_mem)) | (refine' instEB ?iF ?i1 ?iN ?i2; (case iF => k_asm); (case i1 => assumption); (case iN => k_asm); (case i2 => k_mem)))); (case F => k_asm); (case X => k_asm); (case N => k_asm); (case hd => exact rfl); (case hs => k_is); (case hc => k_is); (case hp => first | exact pass87 _ | exact pass125 _); (case hdd => exact rfl); (case ho => k_is); (case ht => k_is); (case hl => k_get); (case e => k_put); (case U => k_upd); (case hz => exact Nat.le_of_ble_eq_true rfl); k_whole; intro h' F' N'; (try k_sweep))
  | (refine' exc_set0K ?F ?X ?N ?hs ?hc ?hp ?hdd ?ho ?ht ?U ?_; (case F => k_asm); (case X => k_asm); (case N => k_asm); (case U => (intro d'; k_upd)); (case hs => k_is); (case hc => k_is); (case hp => first | exact pass87 _ | exact pass125 _); (case hdd => exact rfl); (case ho => k_is); (case ht => k_is); k_whole; intro d' h' F' N' l1; (try k_lt l1); (try k_sweep)))))
local macro_rules | `(tactic| walk_at "call ref") => `(tactic| (k_here; k_dflt (refine' exc_callK ?F ?X ?N ?hC ?a ?b ?c ?d ?e ?f ?g ?hr ?_; (case F => k_asm); (case X => k_asm); (case N => k_asm); (case hC => k_is); (case a => decide +kernel); (case b => decide +kernel); (case c => decide +kernel); (case d => k_is); (case e => k_is); (case f => k_is); (case g => k_is); (case hr => exact Nat.le_of_ble_eq_true rfl); k_whole; intro x' t' h' F' N' l1 l2; (try k_lt l1); (try k_lt2 l2); (try k_sweep); k_enter)))
local macro_rules | `(tactic| walk_at "call builtin:getattr") => `(tactic| (k_here; (with_reducible show wpAny _ _ (call (Value.builtin _) [Value.none, Value.str _ _, _]) _ _ _); k_dflt (refine' ga3_noneK ?F ?N ?hA ?nm ?hm ?hz ?_; (case F => k_asm); (case N => k_asm); (case hA => exact rfl); (case nm => decide); (case hm => exact am_miss_of_fast (by kernel_rfl)); (case hz => (rw [sizeLine_eq]; decide)); k_whole; intro h' tk' F' N'; (try k_sweep))))
local macro_rules | `(tactic| walk_at "call builtin:getattr") => `(tactic| (k_here; (with_reducible show wpAny _ _ (call (Value.builtin _) [Value.ref _, Value.str (Str.ofString "name") _, _]) _ _ _); k_dflt (refine' ga_nameK ?F ?X ?N ?e ?d ?_; (case F => k_asm); (case X => k_asm); (case N => k_asm); (case e => assumption); (case d => (first | assumption | (repeat (first | assumption | refine List.Mem.tail _ ?_)))); k_whole; intro nm' tk')))
local macro_rules | `(tactic| walk_at "setAttr ref") => `(tactic| (k_here; (with_reducible show wpAny _ _ (setAttr (Value.ref _) (Str.ofString "expr") _) _ _ _); k_dflt (refine' er_set_expr ?F ?X ?N ?I ?hd ?U ?_; (case I => (first | (refine' instE ?iN ?i1 ?i2; (case iN => k_asm); (case i1 => k_mem); (case i2 => k_mem)) | (refine' instEB ?iF ?i1 ?iN ?i2; (case iF => k_asm); (case i1 => assumption); (case iN => k_asm); (case i2 => k_mem)))); (case F => k_asm); (case X => k_asm); (case N => k_asm); (case hd => exact rfl); (case U => k_upd); k_whole; intro h' F' N'; (try k_sweep))))
local macro_rules | `(tactic| walk_at "setAttr ref") => `(tactic| (k_here; (with_reducible show wpAny _ _ (setAttr (Value.ref _) (Str.ofString "pos") _) _ _ _); k_dflt (refine' er_set_pos ?F ?X ?N ?I ?hd ?U ?_; (case I => (first | (refine' instE ?iN ?i1 ?i2; (case iN => k_asm); (case i1 => k_mem); (case i2 => k_mem)) | (refine' instEB ?iF ?i1 ?iN ?i2; (case iF => k_asm); (case i1 => assumption); (case iN => k_asm); (case i2 => k_mem)))); (case F => k_asm); (case X => k_asm); (case N => k_asm); (case hd => exact rfl); (case U => k_upd); k_whole; intro h' F' N'; (try k_sweep))))
local macro_rules | `(tactic| k_all) => `(tactic| first | (refine ?_; assumption) | exact allLt_at (by assumption) | exact allLt_lt (by assumption) (ltN (by (try dsimp only); omega)))
local macro_rules | `(tactic| k_lt $h:ident) => `(tactic| (replace $h := allLt_of $h; (simp only [AllLt, and_true] at $h:ident); (repeat (refine And.elim ?_ $h; clear $h; intro _ $h))))
local macro_rules | `(tactic| walk_at "call ref") => `(tactic| (k_here; (with_reducible show wpAny _ _ (call (Value.ref 441) _ _) _ _ _); (refine Stop.go ?_)))
local macro_rules | `(tactic| walk_at "setAttr ref") => `(tactic| (k_here; (with_reducible show wpAny _ _ (setAttr (Value.ref _) (Str.ofString "oids") _) _ _ _); k_dflt (refine' set_oids ?F ?X ?N ?I ?hd ?hs ?hp ?ht ?hh ?U ?_; (case I => k_inst); (case F => k_asm); (case X => k_asm); (case N => k_asm); (case hd => exact rfl); (case hs => k_is); (case hp => k_is); (case ht => k_is); (case hh => k_is); (case U => k_upd); k_whole; intro h' F' N'; (try k_sweep))))
local macro_rules | `(tactic| kun_tup) => `(tactic| exact Fr.tup (by k_asm) (by assumption))
local macro_rules | `(tactic| walk_at "binaryOp Add ref ref") => `(tactic| (k_here; (with_reducible show wpAny _ _ (binaryOp _ (Value.ref _) (Value.ref _)) _ _ _); k_dflt (refine' add_oids ?F ?N ?a ?b ?i ?j ?_; (case F => k_asm); (case N => k_asm); (case a => exact News.isTup (by k_asm) (by k_mem)); (case b => exact Fr.tup (by k_asm) (by assumption)); (case i => assumption); (case j => assumption)); intro D' h' F' N' l1; (try k_lt l1); (try k_sweep)))
local macro_rules | `(tactic| walk_at "compareOp Is ref ref") => `(tactic| (k_here; (with_reducible show wpAny _ _ (compareOp CmpOp.Is (Value.ref _) (Value.ref _)) _ _ _); k_dflt (refine' kto_is ?a ?b ?n ?c ?_; (case a => first | kto_obj | exact kto_N (by k_asm) (by repeat (first | assumption | refine List.Mem.tail _ ?_))); (case b => first | kto_obj | exact Fr.keep (by k_asm) _ _ (by assumption)); (case n => first | assumption | (refine' kto_neNK ?N ?m ?X ?l; (case N => k_asm); (case m => k_mem); (case X => k_asm); (case l => k_is)) | kto_ne); (case c => first | kto_not | assumption); k_whole)))
local macro_rules | `(tactic| walk_at "compareOp Is ref ref") => `(tactic| (k_here; (with_reducible refine wpAny_is_ref_self ?_)))
theorem mc451 {w : World} {c : Ctx} {e : Ex} {pos : Int} {dep cost : Nat} {Pre Pre' : MSt → Prop} {Post Post' : MSt → MSt → Prop} {Res : (Addr → Obj → Prop) → Value → Prop} {it : Addr} {tn : Tok} {a0 : Value}
  (hob : c.ob e = ⟨.ref 451, some (c.dd e), .plain, #[some a0, some (.ref it), some (.str (Str.ofString "s") tn)]⟩)
  (hob2 : ∀ e', ∃ C sl nm tk, (C = 367 ∨ C = 425 ∨ C = 451) ∧ c.ob e' = ⟨.ref C, some (c.dd e'), .plain, sl⟩ ∧ (sl[2]?).join = some (.str nm tk))
  (hp : 0 ≤ pos) (hp2 : pos ≤ 1000)
  (hum : Gives w c 441 e pos dep cost (fun e' j => e' = e ∧ j = pos) Pre' Post' Res)
  (hpre : ∀ σ, Pre σ → Pre' (σ.put e (σ.row e ++ [(pos, .ref 251)])))
  (hpost : ∀ (σ σ₁ σ' : MSt) kvs1 kvs2, σ₁.row = σ.row → Post' (σ₁.put e kvs1) σ' → Post σ (σ'.put e kvs2)) (hpost0 : ∀ (σ σ₁ : MSt) kvs, σ₁.row = σ.row → Post σ (σ₁.put e kvs))
  (hrow : ∀ σ σ' : MSt, σ'.row = σ.row → Pre σ → Pre σ')
  (hres : ∀ kn r, Res kn r → r = .none ∨ ∃ nd o, r = .ref nd ∧ @Ne Nat nd 251 ∧ kn nd o ∧ o.cls = .ref 243)
  (hext : ∀ kn kn' r, KExt kn kn' → Res kn r → Res kn' r)
  (hhit : ∀ Bd M σ v, Inv w c (fun _ _ => False) Bd M σ → Pre σ → valueAt (σ.row e) pos = some v → Res (Mem M) v)
  (hlv : e = .P ∨ e = .Q ∨ e = .T → ∀ kn r, Res kn r → LitVal kn c e pos r) :
  Gives w c 297 e pos (dep + 1) (cost + 2) (fun _ _ => False) Pre Post Res := by
  refine ⟨?_⟩
  intro dp un gd cn sn sg sc sm a ccd cl outer A₀ base h₀ L m s p loose mean mg mb Q E M rest σ Bd tp B F X T hd hu N dj G I hBd pre ret
  refine wpAny_call ?_
  k_dflt (refine' code_defR (hid := M) (rest := rest) ?k1 ?k2 ?k3 ?k4 ?k5 ?kA ?kF ?kK ?k6 ?k7 ?k8 ?k9 ?kB ?dj ?_ ?c2 ?c3 ?c4 ?c5; (case kA => exact rfl); (case kF => exact rfl); (case kK => exact rfl); (case k1 => exact B); (case k2 => exact F); (case k3 => exact X); (case k4 => exact N); (case k5 => exact T); (case k6 => k_is); (case k7 => k_is); (case k8 => k_room); (case k9 => exact BindsTo.of_eq rfl); (case c5 => decide); (case kB => exact locs rfl); (case dj => exact dj); (case c2 => exact rfl); (case c3 => exact rfl); (case c4 => exact rfl); k_whole; intro g' L' h' FG' F' N' R' LT' B' X' T' st'; (try dsimp only); (try k_fold))
  have G' := G.at st' R'
  have hx' : g'.get? (c.ad e) = some ⟨.ref 451, some (c.dd e), .plain, #[some a0, some (.ref it), some (.str (Str.ofString "s") tn)]⟩ := hob ▸ (G'.imm e).g
  have herr' : g'.get? c.err = some (errObj c.derr c.at_) := G'.err.g
  have frM : ∀ a o, (a, o) ∈ M → g'.get? a = none := fun a o h => (N' _ h).2.2
  have F1 : Fr g' L' h' (mP (.ref (c.ad e)) c.text (.int pos tp) (.ref c.cache) (.ref c.err) none none) := Fr.eqm F' mP_bind
  clear F'
  clear B F T
  refine cut_seq (P := fun s' => Stop (∃ h'' tk'' ov σ₁ k row M₁, s' = ⟨h'', s.gens, s.drawn, tk'', s.os⟩ ∧ Fr g' L' h'' (mP (.ref (c.ad e)) c.text (.int pos tp) (.ref c.cache) (.ref c.err) ov (some (.ref row))) ∧ News g' L' h'' M₁ ∧
    Inv w c (fun _ _ => False) Bd M₁ σ₁ ∧ σ₁.ask e = some (k, row) ∧ σ₁.row = σ.row ∧ σ.Le σ₁ ∧ Ext M M₁)) ?tail ?head
  case tail =>
    rintro s' ⟨⟨h'', tk'', ov, σ₁, k, row, M₁, rfl, F2, N2, I2, ha, hro, le, X2⟩⟩
    obtain ⟨oR, ER, hh, tkd, t, nd, oth, S⟩ := inv_split N2 G' I2 ha
    have N3 := News.sub N2 fun p hp => (S.iff p).mpr hp
    obtain ⟨h1, h2, h3, k1, k2, k3, tx, epos, te, ev, ne, rfl, he1, he2, hev⟩ := S.er
    have hRd := S.dict
    have lo := S.lo
    have n1 := S.n1
    have n2 := S.n2
    have n3 := S.n3
    have e1 := S.e1
    have e2 := S.e2
    have e3 := S.e3
    have hsz : (σ₁.row e).length ≤ 100000 := Nat.le_trans (I2.size e) (by omega)
    have pre1 : Pre σ₁ := hrow _ _ hro pre
    clear N2 N'
    cases hv : valueAt (σ₁.row e) pos with
    | some v =>
      have RH := hhit _ _ _ _ I2 pre1 hv
      rcases hres _ _ RH with rfl | ⟨ndr, onr, rfl, hnr, mnr, cnr⟩
      · k_steps
        all_goals rename News h₀ _ _ _ => N9
        all_goals rename News g' _ _ _ => Ng
        all_goals have J := leave_join N R' (by assumption) N9 Ng
        all_goals first
          | (obtain ⟨Z1, Z2, Z3, Z4⟩ := mc_finH (e := e) G' S I2 ha RH hext (ErOk.mk hp hp2)
             exact ret _ _ _ _ _ (by assumption) J.1 J.2 (X2.trans Z2) (Z1.le (by omega)) (fun e' x h => Z3 e' x (le e' x h)) (hpost0 _ _ _ hro) Z4)
          | (obtain ⟨Z1, Z2, Z3, Z4⟩ := mc_finH (e := e) G' S I2 ha RH hext S.er
             exact ret _ _ _ _ _ (by assumption) J.1 J.2 (X2.trans Z2) (Z1.le (by omega)) (fun e' x h => Z3 e' x (le e' x h)) (hpost0 _ _ _ hro) Z4)
      · have cnr' : onr.cls ≠ Value.type "tuple" := fun q => by rw [cnr] at q; cases q
        have N7 : News g' L' h'' ((ndr, onr) :: (row, oR) :: (c.derr, dictOf (erL h1 h2 h3 k1 k2 k3 tx (.int epos te) ev) ne) :: (c.dd e, oidsDict hh tkd t nd) :: oth) := fun p hp => (List.mem_cons.mp hp).elim (fun q => by rw [q]; exact N3 _ ((S.iff _).mp mnr)) (N3 p)
        clear N3
        k_steps
        all_goals rename News h₀ _ _ _ => N9
        all_goals rename News g' _ _ _ => Ng
        all_goals have J := leave_join N R' (by assumption) (News.sub N9 fun p hp => .tail _ hp) (News.sub Ng fun p hp => .tail _ hp)
        all_goals obtain ⟨Z1, Z2, Z3, Z4⟩ := mc_finH (e := e) G' S I2 ha RH hext S.er
        all_goals exact ret _ _ _ _ _ (by assumption) J.1 J.2 (X2.trans Z2) (Z1.le (by omega)) (fun e' x h => Z3 e' x (le e' x h)) (hpost0 _ _ _ hro) Z4
    | none => 
      k_steps
      refine Stop.mk ?_
      k_dflt (refine' Gives.use hum ?B ?F ?X ?T ?hd ?hu ?N rfl ?r0)
      case B => k_asm
      case F => k_asm
      case X => k_asm
      case T => k_asm
      case N => k_asm
      case hd => ((try simp only [depth_mark, depth_deeper, depth_under_make, depth_under_kw, depth_in1]); (try dsimp only [ktrTop]); omega)
      case hu => ((try simp only [units_in1, units_deeper, Around.mark_units]); (try dsimp only [ktrTop]); omega)
      rename News _ _ _ _ => N4
      rename Obj.IsDictOf _ _ _ => d4
      have n1' : ∀ p ∈ (c.dd e, oidsDict hh tkd t nd) :: oth, p.1 ≠ row := List.forall_mem_cons.mpr ⟨Ne.symm e2, n1⟩
      have n2' : ∀ p ∈ (c.dd e, oidsDict hh tkd t nd) :: oth, p.1 ≠ c.derr := List.forall_mem_cons.mpr ⟨e3, n2⟩
      have I3 := I2.congr fun p hp => (S.iff p).mp hp
      obtain ⟨I4, X4, le4⟩ := Inv.put (bz' := fun e' j => e' = e ∧ j = pos) (Bd' := Bd + 1) G' I3 ha n1' n2' e1 S.dict S.er d4 S.er (by
        intro hlit j v hj hv'
        rw [valueAt_app] at hv'
        cases q : valueAt (σ₁.row e) j with
        | some u => rw [q, Option.some_or] at hv'; exact I3.lits e hlit j v (fun h => h) (q.trans hv')
        | none =>
          rw [q, Option.none_or] at hv'
          split at hv'
          · rename_i z; exact absurd ⟨rfl, z.symm⟩ hj
          · cases hv') (fun _ _ _ _ h => h) (by rw [List.length_append]; exact Nat.succ_le_succ (I2.size e)) (Nat.le_succ _)
      refine ⟨_, [], _, Bd + 1, (fun p hp => by rw [List.append_nil] at hp; exact hp), (fun _ _ _ h => nomatch h), G', I4, by omega, hpre _ pre1, ?_⟩
      intro r new σ' h5 tk5 F5 N5 dj5 X5 I5 le5 post5 R5
      rw [List.append_nil] at N5
      have ha5 : σ'.ask e = some (k, row) := le5 e _ ha
      obtain ⟨oR5, ER5, hh5, tkd5, t5, nd5, oth5, S5⟩ := inv_split N5 G' I5 ha5
      have N6 := News.sub N5 fun p hp => (S5.iff p).mpr hp
      have hE5 := S5.er
      obtain ⟨h1, h2, h3, k1, k2, k3, tx, epos, te, ev, ne, rfl, he1, he2, hev⟩ := hE5
      have d5 := S5.dict
      have m1 := S5.n1
      have m2 := S5.n2
      have m3 := S5.n3
      have e1 := S5.e1
      have e2 := S5.e2
      have e3 := S5.e3
      have d5c := dictOf_cls d5
      have hsz5 : (σ'.row e).length ≤ 100000 := Nat.le_trans (I5.size e) (by omega)
      (try clear N4)
      (try clear N5)
      (try clear F2)
      (try clear d4)
      rcases hres _ _ R5 with rfl | ⟨ndr, onr, rfl, hnr, mnr, cnr⟩
      · k_steps
        all_goals rename News h₀ _ _ _ => N9
        all_goals rename News g' _ _ _ => Ng
        all_goals rename Obj.IsDictOf _ _ _ => d9
        all_goals have J := leave_join N R' (by assumption) N9 Ng
        all_goals first
          | (obtain ⟨Z1, Z2, Z3, Z4⟩ := mc_fin (e := e) G' S5 I5 ha5 R5 hext hlv d9 (ErOk.mk hp hp2)
             exact ret _ _ _ _ _ (by assumption) J.1 J.2 (((X2.trans (Ext.of_sub fun p hp => (S.iff p).mp hp)).trans X4).trans (X5.trans Z2)) (Z1.le (by omega)) (fun e' x h => Z3 e' x (le5 e' x (le e' x h))) (hpost _ _ _ _ _ hro post5) Z4)
          | (obtain ⟨Z1, Z2, Z3, Z4⟩ := mc_fin (e := e) G' S5 I5 ha5 R5 hext hlv d9 S5.er
             exact ret _ _ _ _ _ (by assumption) J.1 J.2 (((X2.trans (Ext.of_sub fun p hp => (S.iff p).mp hp)).trans X4).trans (X5.trans Z2)) (Z1.le (by omega)) (fun e' x h => Z3 e' x (le5 e' x (le e' x h))) (hpost _ _ _ _ _ hro post5) Z4)
      · have hnrow : @Ne Nat ndr row := fun q => by
          subst q
          rw [news_uniq N6 _ _ _ (List.Mem.head _) ((S5.iff _).mp mnr), cnr] at d5c
          cases d5c
        have cnr' : onr.cls ≠ Value.type "tuple" := fun q => by rw [cnr] at q; cases q
        have N7 : News g' L' h5 ((ndr, onr) :: (row, oR5) :: (c.derr, dictOf (erL h1 h2 h3 k1 k2 k3 tx (.int epos te) ev) ne) :: (c.dd e, oidsDict hh5 tkd5 t5 nd5) :: oth5) := fun p hp => (List.mem_cons.mp hp).elim (fun q => by rw [q]; exact N6 _ ((S5.iff _).mp mnr)) (N6 p)
        clear N6
        k_steps
        all_goals rename News h₀ _ _ _ => N9
        all_goals rename News g' _ _ _ => Ng
        all_goals rename Obj.IsDictOf _ _ _ => d9
        all_goals have J := leave_join N R' (by assumption) (News.sub N9 fun p hp => .tail _ hp) (News.sub Ng fun p hp => .tail _ hp)
        all_goals obtain ⟨Z1, Z2, Z3, Z4⟩ := mc_fin (e := e) G' S5 I5 ha5 R5 hext hlv d9 S5.er
        all_goals exact ret _ _ _ _ _ (by assumption) J.1 J.2 (((X2.trans (Ext.of_sub fun p hp => (S.iff p).mp hp)).trans X4).trans (X5.trans Z2)) (Z1.le (by omega)) (fun e' x h => Z3 e' x (le5 e' x (le e' x h))) (hpost _ _ _ _ _ hro post5) Z4
  case head =>
    have IV := I
    refine for_tup (h₀ := g') rfl ?_
    cases ha0 : σ.ask e with
    | some kr =>
      obtain ⟨k, row⟩ := kr
      obtain ⟨hh, tkd, t, nd, it', tk', mD, mt, mi⟩ := I.dict2 e k row ha0
      obtain ⟨oC, mC, dC⟩ := I.cache
      obtain ⟨hval, lo, lt, oR, mR, dR⟩ := I.asked e k row ha0
      have lo2 := G.lo
      have N3 : News g' L' h' ((c.dd e, oidsDict hh tkd t nd) :: (t, tupObj (titems (it' :: c.its e))) :: (it', tupObj #[.int k tk', .ref row]) :: (c.cache, oC) :: M) := News.sub N' (by
        simp only [List.forall_mem_cons]
        exact ⟨mD, mt, mi, mC, fun _ h => h⟩)
      k_steps
      refine TupHere.of (vs := (it' :: c.its e).map Value.ref) (by k_asm) (by k_asm) ?_ ?_
      · exact ⟨_, News.get (by k_asm) (by k_mem), rfl, _, rfl⟩
      intro I hI h tk oi F N hI2
      k_steps
      all_goals rename News g' _ _ _ => N9
      all_goals rename Fr g' _ _ _ => F9
      any_goals exact trivial
      all_goals refine Stop.mk ?_
      all_goals exact ⟨_, _, _, σ, k, row, M, rfl, Fr.eqm F9 mP_set2, News.sub N9 (fun p hp => by repeat (first | exact hp | refine List.Mem.tail _ ?_)), by assumption, ha0, rfl, MSt.Le.refl, Ext.refl⟩
    | none =>
      obtain ⟨oC, mC, dC⟩ := I.cache
      have lo2 := G.lo
      have hro := I.room ha0
      have hkn := I.fresh
      have hkv : σ.kvs.length ≤ 8 := by omega
      have e1 : @Ne Nat (c.dd e) c.cache := Nat.ne_of_lt (G.dds e)
      by_cases hold : c.old e = []
      · have mD := I.dict0 e ha0 hold
        obtain ⟨oth, iff, n1, n2⟩ := split2 N' mD mC e1
        have N3 := News.sub N' fun p hp => (iff p).mpr hp
        k_steps
        refine TupHere.of (vs := []) (by k_asm) (by k_asm) ?_ ?_
        · exact ⟨_, News.get (by k_asm) (by k_mem), rfl, _, rfl⟩
        intro I1 hI h tk F N
        have hits : c.its e = [] := (G'.its e).nil_of.mpr hold
        k_steps
        all_goals rename News g' _ _ _ => N9
        all_goals rename Fr g' _ _ _ => F9
        all_goals refine Stop.mk ?_
        all_goals exact ask_fin0 G' IV ha0 iff rfl (dictOf_cls dC) hits F9 mP_set N9 valLen (by assumption) (by assumption) (by assumption) (by assumption) (by assumption) (by assumption)
      · obtain ⟨hh, tkd, nd, mD⟩ := I.dict1 e ha0 hold
        have mt : IsTup g' (c.told e) (titems (c.its e)) := ⟨_, (G'.told e hold).g, rfl, _, rfl⟩
        have hsm := G.small e
        have hine : c.its e ≠ [] := fun q => hold ((G'.its e).nil_of.mp q)
        obtain ⟨oth, iff, n1, n2⟩ := split2 N' mD mC e1
        have N3 := News.sub N' fun p hp => (iff p).mpr hp
        k_steps
        refine TupHere.of (vs := (c.its e).map Value.ref) (by k_asm) (by k_asm) ?_ ?_
        · exact Fr.tup (by k_asm) mt
        intro I1 hI
        refine turns_ind (fun ov ev => mP (.ref (c.ad e)) c.text (.int pos tp) (.ref c.cache) (.ref c.err) ov ev) ?last ?step (G'.its e) 0 none none
        case last =>
          intro i ov ev h tk F N
          k_steps
          all_goals rename News g' _ _ _ => N9
          all_goals rename Fr g' _ _ _ => F9
          all_goals refine Stop.mk ?_
          all_goals exact ask_finP G' IV ha0 iff rfl (dictOf_cls dC) F9 mP_set (News.sub N9 drop2) valLen (by assumption) (by assumption) (by assumption) (by assumption) (by assumption) (by assumption)
        case step =>
          intro it1 k1 row1 o1 tk1 r1 i ov ev hit1 hro1 next h tk oi F N hI2
          have ht1 : IsTup g' it1 #[.int k1 tk1, .ref row1] := ⟨_, hit1, rfl, _, rfl⟩
          cases hva : valueAt σ.kvs k1 with
          | none =>
            k_steps
            all_goals rename News g' _ _ _ => N9
            all_goals rename Fr g' _ _ _ => F9
            all_goals refine Stop.mk ?_
            all_goals exact ⟨_, _, _, _, rfl, Fr.eqm F9 mP_set2, N9, fun p hp => Nat.ne_of_lt (hI p hp), Fr.tup F9 mt, next _ _⟩
          | some v1 =>
            obtain ⟨a1, oa1, rfl, hlt1, ma1, ca1⟩ := IV.vals _ _ hva
            have hne1 : @Ne Nat a1 row1 := fun q => by
              have z := frM a1 oa1 ma1
              rw [show a1 = row1 from q, hro1] at z
              cases z
            have ca2 : oa1.cls ≠ Value.type "tuple" := fun q => by rw [ca1] at q; exact absurd (Value.type.inj q) (by decide)
            have ma2 := (iff _).mp ma1
            k_steps
            all_goals rename News g' _ _ _ => N9
            all_goals rename Fr g' _ _ _ => F9
            all_goals refine Stop.mk ?_
            all_goals exact ⟨_, _, _, _, rfl, Fr.eqm F9 mP_set2, N9, fun p hp => Nat.ne_of_lt (hI p hp), Fr.tup F9 mt, next _ _⟩
end Mine
end
section
open PySem PySem.W PyProof.Rows PySem.Calls PySem.Spec
set_option Elab.async false
set_option maxRecDepth 100000
set_option maxHeartbeats 8000000
namespace Mine
theorem prime_litum : (fun (_ : OpenLaw) (_ : Params → Frag) => True) PySem.Challenge.rw_vj0018_01 hd.heap_39 := by
  w_top off
  k_fill
  trivial
local macro_rules | `(tactic| k_room) => `(tactic| first
  | ((try simp only [depth_mark, depth_under_make, depth_under_kw, depth_in1, depth_deeper, depth_caller]); decide)
  | ((try simp only [depth_mark, depth_under_make, depth_under_kw, depth_in1, depth_deeper, depth_caller]); (try dsimp only [ktrTop]); (simp only [recursionLimit] at *); omega))
local macro_rules | `(tactic| k_units) => `(tactic| first
  | exact Nat.le_of_ble_eq_true rfl
  | (have hcL9 := cLine_is; (try simp only [units_in1, units_deeper, Around.mark_units, units_caller] at *); (try dsimp only [ktrTop] at *); omega))
local macro_rules | `(tactic| walk_at "call ref") => `(tactic| (k_here; ks_any; k_dflt (
   (refine' call_cls ?k1 ?k2 ?k3 ?k4 ?k5 ?k6 ?_; (case k1 => k_asm); (case k2 => k_asm); (case k3 => k_asm); (case k4 => k_is); (case k5 => k_is); (case k6 => k_is); intro x' d' h' F' N' l1 l2; (try k_lt l1); (try k_lt2 l2);
    (refine' ks_code_super ?k1 ?k2 ?k3 ?k4 ?k5 ?kA ?kF ?kK ?k6 ?k7 ?k8 ?k9 ?kB ?_ ?c1 ?c2 ?c3 ?c4; (case kA => exact rfl); (case kF => exact rfl); (case kK => exact rfl); (case k1 => k_asm); (case k2 => k_asm); (case k3 => k_asm); (case k4 => k_asm); (case k5 => k_asm); (case k6 => k_is); (case k7 => k_is); (case k8 => k_room); (case k9 => exact binds_K (by k_in) rfl (by k_is) rfl rfl rfl); (case kB => exact locs rfl); (case c1 => decide); (case c2 => exact rfl); (case c3 => exact rfl); (case c4 => exact rfl); intro g' L' h' FG' F' N' B' X' T' l1; (try k_lt l1); (try dsimp only); (try k_lift B'))))))
local macro_rules | `(tactic| k_inst) => `(tactic| first
  | (refine' InstAt.of_news ?N ?h1 ?h2; (case N => k_asm); (case h1 => k_mem); (case h2 => k_mem))
  | (refine' instB ?F ?h1 ?N ?h2; (case F => k_asm); (case h1 => assumption); (case N => k_asm); (case h2 => k_mem))
  | (refine' instBB ?F ?h1 ?h2; (case F => k_asm); (case h1 => assumption); (case h2 => assumption)))
local macro_rules | `(tactic| walk_at "call builtin:getattr") => `(tactic| (k_here; (with_reducible show wpAny _ _ (call (Value.builtin _) [Value.ref _, Value.str _ _, _]) _ _ _); k_dflt (first
  | (refine' ga3_own ?F ?X ?I ?g ?hh ?ha ?hn ?hl ?hv ?hm ?nm ?_; (case I => k_inst); (case F => k_asm); (case X => k_asm); (case g => k_is); (case hh => k_is); (case ha => k_is); (case hn => k_is); (case hl => k_get); (case hv => k_handed); (case hm => k_is); (case nm => decide); k_whole)
  | (refine' ga3_no ?F ?X ?N ?I ?hA ?g ?hh ?ha ?hl ?hm ?nm ?hc ?hcn ?cp ?ms ?_; (case I => k_inst); (case F => k_asm); (case X => k_asm); (case N => k_asm); (case hA => exact rfl); (case g => k_is); (case hh => k_is); (case ha => k_is); (case hl => k_get); (case hm => k_is); (case nm => decide); (case hc => k_is); (case hcn => decide +kernel); (case cp => decide +kernel); (case ms => decide +kernel); k_whole; intro h' tk' F' N'; (try k_sweep)))))
local macro_rules | `(tactic| walk_at "call builtin:len") => `(tactic| (k_here; (with_reducible show wpAny _ _ (call (Value.builtin "len") [Value.ref _]) _ _ _); k_dflt (refine' kda_len (knd := PySem.intKind _ _) ?N ?m ?d ?lo ?fit ?_; (case N => k_asm); (case m => k_mem); (case d => assumption); (case lo => assumption); (case fit => first | omega | (simp only [List.length_append, List.length_cons, List.length_nil]; omega)); k_whole)))
local macro_rules | `(tactic| walk_at "setItem ref int") => `(tactic| (k_here; k_dflt (refine' kda_set (knd := PySem.intKind _ _) ?F ?N ?U ?d (intKind_is _ _ _ _) ?z ?_; (case F => k_asm); (case N => k_asm); (case U => k_updF); (case d => assumption); (case z => (rw [sizeLine_eq]; first | omega | (simp only [List.length_append, List.length_cons, List.length_nil]; omega))); k_whole); intro h' o' F' N' hd'; (try dsimp only at N'); (try rw [stored_new (by assumption)] at hd'); (try k_sweep)))
local macro_rules | `(tactic| walk_at "compareOp In int ref") => `(tactic| (k_here; k_dflt (first
  | (refine' mp_in0 (knd := PySem.intKind _ _) ?N ?m ?d ?lo (intKind_is _ _ _ _) ?hl ?_; (case N => k_asm); (case m => k_mem); (case d => assumption); (case lo => assumption); (case hl => assumption); k_whole)
  | (refine' mp_in1 (knd := PySem.intKind _ _) ?N ?m ?d ?lo (intKind_is _ _ _ _) ?hl ?_; (case N => k_asm); (case m => k_mem); (case d => assumption); (case lo => assumption); (case hl => assumption); k_whole))))
local macro_rules | `(tactic| walk_at "subscriptTail") => `(tactic| (k_here; (with_reducible show wpAny _ _ (subscriptTail _ _ (Value.ref _) (Value.int _ _)) _ _ _); k_dflt (refine' kda_item (knd := PySem.intKind _ _) ?N ?m ?d (intKind_is _ _ _ _) ?hl ?_ ?hs ?hg; (case N => k_asm); (case m => k_mem); (case d => assumption); (case hl => assumption); (case hs => with_unfolding_all rfl); (case hg => (intro _; with_unfolding_all rfl)); k_whole)))
local macro_rules | `(tactic| walk_at "getMethod ref") => `(tactic| (k_here; (with_reducible show wpAny _ _ (getMethod (Value.ref _) (Str.ofString "get") _) _ _ _); k_dflt (refine' kdg_method (knd := PySem.intKind _ _) ?N ?m ?d ?_; (case N => k_asm); (case m => k_mem); (case d => assumption); k_whole)))
local macro_rules | `(tactic| walk_at "call builtin:dict.get") => `(tactic| (k_here; k_dflt (refine' kdg_get1 (knd := PySem.intKind _ _) ?N ?m ?d ?lo (intKind_is _ _ _ _) _ ?hl ?_; (case N => k_asm); (case m => k_mem); (case d => assumption); (case lo => assumption); (case hl => assumption); k_whole); (try dsimp only [Option.getD])))
local macro_rules | `(tactic| walk_at "getAttr ref") => `(tactic| (k_here; k_dflt (refine' exc_getK ?F ?X ?I ?ga ?gt ?hb ?hh ?ha ?hn ?hl ?hv ?_; (case I => (first | (refine' instE ?iN ?i1 ?i2; (case iN => k_asm); (case i1 => k_mem); (case i2 => k_mem)) | (refine' instEB ?iF ?i1 ?iN ?i2; (case iF => k_asm); (case i1 => assumption); (case iN => k_asm); (case i2 => k_mem)))); (case F => k_asm); (case X => k_asm); (case ga => k_is); (case gt => k_is); (case hb => k_is); (case hh => k_is); (case ha => k_is); (case hn => k_is); (case hl => k_get); (case hv => k_handed); k_whole)))
local macro_rules | `(tactic| walk_at "setAttr ref") => `(tactic| (k_here; k_dflt (first
  | (refine' exc_setK ?F ?X ?N ?I ?hd ?hs ?hc ?hp ?hdd ?ho ?ht ?hl ?e ?U ?hz ?_; (case I => (first | (refine' instE ?iN ?i1 ?i2; (case iN => k_asm); (case i1 => k_mem); (case i2 => k_mem)) | (refine' instEB ?iF ?i1 ?iN ?i2; (case iF => k_asm); (case i1 => assumption); (case iN => k_asm); (case i2 => k_mem)))); (case F => k_asm); (case X => k_asm); (case N => k_asm); (case hd => exact rfl); (case hs => k_is); (case hc => k_is); (case hp => first | exact pass87 _ | exact pass125 _); (case hdd => exact rfl); (case ho => k_is); (case ht => k_is); (case hl => k_get); (case e => k_put); (case U => k_upd); (case hz => exact Nat.le_of_ble_eq_true rfl); k_whole; intro h' F' N'; (try k_sweep))
  | (refine' exc_set0K ?F ?X ?N ?hs ?hc ?hp ?hdd ?ho ?ht ?U ?_; (case F => k_asm); (case X => k_asm); (case N => k_asm); (case U => (intro d'; k_upd)); (case hs => k_is); (case hc => k_is); (case hp => first | exact pass87 _ | exact pass125 _); (case hdd => exact rfl); (case ho => k_is); (case ht => k_is); k_whole; intro d' h' F' N' l1; (try k_lt l1); (try k_sweep)))))
local macro_rules | `(tactic| walk_at "call ref") => `(tactic| (k_here; k_dflt (refine' exc_callK ?F ?X ?N ?hC ?a ?b ?c ?d ?e ?f ?g ?hr ?_; (case F => k_asm); (case X => k_asm); (case N => k_asm); (case hC => k_is); (case a => decide +kernel); (case b => decide +kernel); (case c => decide +kernel); (case d => k_is); (case e => k_is); (case f => k_is); (case g => k_is); (case hr => exact Nat.le_of_ble_eq_true rfl); k_whole; intro x' t' h' F' N' l1 l2; (try k_lt l1); (try k_lt2 l2); (try k_sweep); k_enter)))
local macro_rules | `(tactic| walk_at "call builtin:getattr") => `(tactic| (k_here; (with_reducible show wpAny _ _ (call (Value.builtin _) [Value.none, Value.str _ _, _]) _ _ _); k_dflt (refine' ga3_noneK ?F ?N ?hA ?nm ?hm ?hz ?_; (case F => k_asm); (case N => k_asm); (case hA => exact rfl); (case nm => decide); (case hm => exact am_miss_of_fast (by kernel_rfl)); (case hz => (rw [sizeLine_eq]; decide)); k_whole; intro h' tk' F' N'; (try k_sweep))))
local macro_rules | `(tactic| walk_at "call builtin:getattr") => `(tactic| (k_here; (with_reducible show wpAny _ _ (call (Value.builtin _) [Value.ref _, Value.str (Str.ofString "name") _, _]) _ _ _); k_dflt (refine' ga_nameK ?F ?X ?N ?e ?d ?_; (case F => k_asm); (case X => k_asm); (case N => k_asm); (case e => assumption); (case d => (first | assumption | (repeat (first | assumption | refine List.Mem.tail _ ?_)))); k_whole; intro nm' tk')))
local macro_rules | `(tactic| walk_at "setAttr ref") => `(tactic| (k_here; (with_reducible show wpAny _ _ (setAttr (Value.ref _) (Str.ofString "expr") _) _ _ _); k_dflt (refine' er_set_expr ?F ?X ?N ?I ?hd ?U ?_; (case I => (first | (refine' instE ?iN ?i1 ?i2; (case iN => k_asm); (case i1 => k_mem); (case i2 => k_mem)) | (refine' instEB ?iF ?i1 ?iN ?i2; (case iF => k_asm); (case i1 => assumption); (case iN => k_asm); (case i2 => k_mem)))); (case F => k_asm); (case X => k_asm); (case N => k_asm); (case hd => exact rfl); (case U => k_upd); k_whole; intro h' F' N'; (try k_sweep))))
local macro_rules | `(tactic| walk_at "setAttr ref") => `(tactic| (k_here; (with_reducible show wpAny _ _ (setAttr (Value.ref _) (Str.ofString "pos") _) _ _ _); k_dflt (refine' er_set_pos ?F ?X ?N ?I ?hd ?U ?_; (case I => (first | (refine' instE ?iN ?i1 ?i2; (case iN => k_asm); (case i1 => k_mem); (case i2 => k_mem)) | (refine' instEB ?iF ?i1 ?iN ?i2; (case iF => k_asm); (case i1 => assumption); (case iN => k_asm); (case i2 => k_mem)))); (case F => k_asm); (case X => k_asm); (case N => k_asm); (case hd => exact rfl); (case U => k_upd); k_whole; intro h' F' N'; (try k_sweep))))
local macro_rules | `(tactic| k_all) => `(tactic| first | (refine ?_; assumption) | exact allLt_at (by assumption))
local macro_rules | `(tactic| k_lt $h:ident) => `(tactic| (replace $h := allLt_of $h; (simp only [AllLt, and_true] at $h:ident); (repeat (refine And.elim ?_ $h; clear $h; intro _ $h))))
theorem lit_um {w : World} {dp un : Nat} {gd : Option (List Code)} {cn : Str} {sn : List (Str × NameKind)} {sg sc : Bool} {sm : List (Str × Const)} {a : Addr} {ccd : Value} {cl : List (Str × Addr)} {outer : List Env} {A₀ : Around} {base h₀ : Heap} {L : Addr} {m : Str → Option Value} {s : Shared}
  {p : Program} {loose : List Str} {mean : ExcName → Option Value} {mg mb : Str → Option Value} {Q E : Value → Shared → Prop}
  (B : Below A₀ base outer h₀) (F : Fr h₀ L s.heap m) (X : (hd.heap_39 w.params).In h₀) (T : Top p loose mean mg mb h₀)
  (hd : dp + 20 < recursionLimit) (hu : un + 160 < cLine)
  {x dx it cache err : Addr} {lit text : Str} {tl tt tp tn : Tok} {nm : Str} {pos : Int} {od : Obj} {rest : List (Addr × Obj)}
  (hx : Kn h₀ rest x (litObj dx (.str lit tl) it (.str nm tn))) (hdx : Kn h₀ rest dx od) (hp : 0 ≤ pos) (hp2 : pos ≤ 1000) (hl : lit.length ≤ 1000)
  (N : News h₀ L s.heap ([] ++ rest))
  (ret0 : Txt.startswith3 text lit pos = false → ∀ h' tk', Fr h₀ L h' m → News h₀ L h' rest → Q .none ⟨h', s.gens, s.drawn, tk', s.os⟩)
  (ret1 : Txt.startswith3 text lit pos = true → ∀ nd dn lc tE h' tk', Fr h₀ L h' m → News h₀ L h' ((lc, listOf #[] 0) :: (nd, nodeObj dn lc x (.str text tt) (.int pos tp) (.int (pos + (lit.length : Int)) tE)) :: (dn, dictOf [] 0) :: rest) →
    (∀ q ∈ rest, @Ne Nat q.1 nd) → (∀ q ∈ rest, @Ne Nat q.1 lc) → (∀ q ∈ rest, @Ne Nat q.1 dn) → Q (.ref nd) ⟨h', s.gens, s.drawn, tk', s.os⟩)
  : wpAny (model PySem.Challenge.rw_vj0018_01.row.prog w) (ktrTop dp un gd cn ⟨.function, sn, sg, sc, sm⟩ L a ccd cl outer) (call (.ref 356) [.ref x, .str text tt, .int pos tp, .ref cache, .ref err]) Q E s := by
  have dj : ∀ p ∈ ([] : List (Addr × Obj)), ∀ q ∈ rest, p.1 ≠ q.1 := fun _ h => nomatch h
  refine wpAny_call ?_
  k_dflt (refine' code_defR ?k1 ?k2 ?k3 ?k4 ?k5 ?kA ?kF ?kK ?k6 ?k7 ?k8 ?k9 ?kB ?dj ?_ ?c2 ?c3 ?c4 ?c5; (case kA => exact rfl); (case kF => exact rfl); (case kK => exact rfl); (case k1 => exact B); (case k2 => exact F); (case k3 => exact X); (case k4 => exact N); (case k5 => exact T); (case k6 => k_is); (case k7 => k_is); (case k8 => k_room); (case k9 => exact BindsTo.of_eq rfl); (case c5 => decide); (case kB => exact locs rfl); (case dj => exact dj); (case c2 => exact rfl); (case c3 => exact rfl); (case c4 => exact rfl); k_whole; intro g' L' h' FG' F' N' R' LT' B' X' T' st'; (try dsimp only); (try k_fold))
  have hx' := hx.at st' R'
  have hdx' := hdx.at st' R'
  clear B F T
  k_steps
  · refine ret1 (by assumption) _ _ _ _ _ _ (by k_asm) (news_join (new := [_, _, _]) N R' (by assumption) (by k_asm)) ?_ ?_ ?_
    · exact fresh_ne R' (by k_asm) (by k_mem)
    · exact fresh_ne R' (by k_asm) (by k_mem)
    · exact fresh_ne R' (by k_asm) (by k_mem)
  · exact ret0 (by assumption) _ _ (by k_asm) (news_join (new := []) N R' (by assumption) (by k_asm))
end Mine
end
section
open PySem PySem.W PyProof.Rows PySem.Calls PySem.Spec
set_option Elab.async false
set_option maxRecDepth 100000
set_option maxHeartbeats 8000000
namespace Mine
theorem prime_mcE : (fun (_ : OpenLaw) (_ : Params → Frag) => True) PySem.Challenge.rw_vj0018_01 hd.heap_39 := by
  w_top off
  k_fill
  trivial
local macro_rules | `(tactic| k_room) => `(tactic| first
  | ((try simp only [depth_mark, depth_under_make, depth_under_kw, depth_in1, depth_deeper, depth_caller]); decide)
  | ((try simp only [depth_mark, depth_under_make, depth_under_kw, depth_in1, depth_deeper, depth_caller]); (try dsimp only [ktrTop]); (simp only [recursionLimit] at *); omega))
local macro_rules | `(tactic| k_units) => `(tactic| first
  | exact Nat.le_of_ble_eq_true rfl
  | (have hcL9 := cLine_is; (try simp only [units_in1, units_deeper, Around.mark_units, units_caller] at *); (try dsimp only [ktrTop] at *); omega))
local macro_rules | `(tactic| walk_at "call ref") => `(tactic| (k_here; ks_any; k_dflt (
   (refine' call_cls ?k1 ?k2 ?k3 ?k4 ?k5 ?k6 ?_; (case k1 => k_asm); (case k2 => k_asm); (case k3 => k_asm); (case k4 => k_is); (case k5 => k_is); (case k6 => k_is); intro x' d' h' F' N' l1 l2; (try k_lt l1); (try k_lt2 l2);
    (refine' ks_code_super ?k1 ?k2 ?k3 ?k4 ?k5 ?kA ?kF ?kK ?k6 ?k7 ?k8 ?k9 ?kB ?_ ?c1 ?c2 ?c3 ?c4; (case kA => exact rfl); (case kF => exact rfl); (case kK => exact rfl); (case k1 => k_asm); (case k2 => k_asm); (case k3 => k_asm); (case k4 => k_asm); (case k5 => k_asm); (case k6 => k_is); (case k7 => k_is); (case k8 => k_room); (case k9 => exact binds_K (by k_in) rfl (by k_is) rfl rfl rfl); (case kB => exact locs rfl); (case c1 => decide); (case c2 => exact rfl); (case c3 => exact rfl); (case c4 => exact rfl); intro g' L' h' FG' F' N' B' X' T' l1; (try k_lt l1); (try dsimp only); (try k_lift B'))))))
local macro_rules | `(tactic| k_inst) => `(tactic| first
  | (refine' InstAt.of_news ?N ?h1 ?h2; (case N => k_asm); (case h1 => k_mem); (case h2 => k_mem))
  | (refine' instB ?F ?h1 ?N ?h2; (case F => k_asm); (case h1 => assumption); (case N => k_asm); (case h2 => k_mem))
  | (refine' instBB ?F ?h1 ?h2; (case F => k_asm); (case h1 => assumption); (case h2 => assumption)))
local macro_rules | `(tactic| walk_at "call builtin:getattr") => `(tactic| (k_here; (with_reducible show wpAny _ _ (call (Value.builtin _) [Value.ref _, Value.str _ _, _]) _ _ _); k_dflt (first
  | (refine' ga3_own ?F ?X ?I ?g ?hh ?ha ?hn ?hl ?hv ?hm ?nm ?_; (case I => k_inst); (case F => k_asm); (case X => k_asm); (case g => k_is); (case hh => k_is); (case ha => k_is); (case hn => k_is); (case hl => k_get); (case hv => k_handed); (case hm => k_is); (case nm => decide); k_whole)
  | (refine' ga3_no ?F ?X ?N ?I ?hA ?g ?hh ?ha ?hl ?hm ?nm ?hc ?hcn ?cp ?ms ?_; (case I => k_inst); (case F => k_asm); (case X => k_asm); (case N => k_asm); (case hA => exact rfl); (case g => k_is); (case hh => k_is); (case ha => k_is); (case hl => k_get); (case hm => k_is); (case nm => decide); (case hc => k_is); (case hcn => decide +kernel); (case cp => decide +kernel); (case ms => decide +kernel); k_whole; intro h' tk' F' N'; (try k_sweep)))))
local macro_rules | `(tactic| walk_at "call builtin:len") => `(tactic| (k_here; (with_reducible show wpAny _ _ (call (Value.builtin "len") [Value.ref _]) _ _ _); k_dflt (refine' kda_len (knd := PySem.intKind _ _) ?N ?m ?d ?lo ?fit ?_; (case N => k_asm); (case m => k_mem); (case d => assumption); (case lo => assumption); (case fit => first | omega | (simp only [List.length_append, List.length_cons, List.length_nil]; omega)); k_whole)))
local macro_rules | `(tactic| walk_at "setItem ref int") => `(tactic| (k_here; k_dflt (refine' kda_set (knd := PySem.intKind _ _) ?F ?N ?U ?d (intKind_is _ _ _ _) ?z ?_; (case F => k_asm); (case N => k_asm); (case U => k_updF); (case d => assumption); (case z => (rw [sizeLine_eq]; first | omega | (simp only [List.length_append, List.length_cons, List.length_nil]; omega))); k_whole); intro h' o' F' N' hd'; (try dsimp only at N'); (try rw [stored_new (by assumption)] at hd'); (try k_sweep)))
local macro_rules | `(tactic| walk_at "compareOp In int ref") => `(tactic| (k_here; k_dflt (first
  | (refine' mp_in0 (knd := PySem.intKind _ _) ?N ?m ?d ?lo (intKind_is _ _ _ _) ?hl ?_; (case N => k_asm); (case m => k_mem); (case d => assumption); (case lo => assumption); (case hl => assumption); k_whole)
  | (refine' mp_in1 (knd := PySem.intKind _ _) ?N ?m ?d ?lo (intKind_is _ _ _ _) ?hl ?_; (case N => k_asm); (case m => k_mem); (case d => assumption); (case lo => assumption); (case hl => assumption); k_whole))))
local macro_rules | `(tactic| walk_at "subscriptTail") => `(tactic| (k_here; (with_reducible show wpAny _ _ (subscriptTail _ _ (Value.ref _) (Value.int _ _)) _ _ _); k_dflt (refine' kda_item (knd := PySem.intKind _ _) ?N ?m ?d (intKind_is _ _ _ _) ?hl ?_ ?hs ?hg; (case N => k_asm); (case m => k_mem); (case d => assumption); (case hl => assumption); (case hs => with_unfolding_all rfl); (case hg => (intro _; with_unfolding_all rfl)); k_whole)))
local macro_rules | `(tactic| walk_at "getMethod ref") => `(tactic| (k_here; (with_reducible show wpAny _ _ (getMethod (Value.ref _) (Str.ofString "get") _) _ _ _); k_dflt (refine' kdg_method (knd := PySem.intKind _ _) ?N ?m ?d ?_; (case N => k_asm); (case m => k_mem); (case d => assumption); k_whole)))
local macro_rules | `(tactic| walk_at "call builtin:dict.get") => `(tactic| (k_here; k_dflt (refine' kdg_get1 (knd := PySem.intKind _ _) ?N ?m ?d ?lo (intKind_is _ _ _ _) _ ?hl ?_; (case N => k_asm); (case m => k_mem); (case d => assumption); (case lo => assumption); (case hl => assumption); k_whole); (try dsimp only [Option.getD])))
local macro_rules | `(tactic| walk_at "getAttr ref") => `(tactic| (k_here; k_dflt (refine' exc_getK ?F ?X ?I ?ga ?gt ?hb ?hh ?ha ?hn ?hl ?hv ?_; (case I => (first | (refine' instE ?iN ?i1 ?i2; (case iN => k_asm); (case i1 => k_mem); (case i2 => k_mem)) | (refine' instEB ?iF ?i1 ?iN ?i2; (case iF => k_asm); (case i1 => assumption); (case iN => k_asm); (case i2 => k_mem)))); (case F => k_asm); (case X => k_asm); (case ga => k_is); (case gt => k_is); (case hb => k_is); (case hh => k_is); (case ha => k_is); (case hn => k_is); (case hl => k_get); (case hv => k_handed); k_whole)))
local macro_rules | `(tactic| walk_at "setAttr ref") => `(tactic| (k_here; k_dflt (first
  | (refine' exc_setK ?F ?X ?N ?I ?hd ?hs ?hc ?hp ?hdd ?ho ?ht ?hl ?e ?U ?hz ?_; (case I => (first | (refine' instE ?iN ?i1 ?i2; (case iN => k_asm); (case i1 => k_mem); (case i2 => k_mem)) | (refine' instEB ?iF ?i1 ?iN ?i2; (case iF => k_asm); (case i1 => assumption); (case iN => k_asm); (case i2 => k_mem)))); (case F => k_asm); (case X => k_asm); (case N => k_asm); (case hd => exact rfl); (case hs => k_is); (case hc => k_is); (case hp => first | exact pass87 _ | exact pass125 _); (case hdd => exact rfl); (case ho => k_is); (case ht => k_is); (case hl => k_get); (case e => k_put); (case U => k_upd); (case hz => exact Nat.le_of_ble_eq_true rfl); k_whole; intro h' F' N'; (try k_sweep))
  | (refine' exc_set0K ?F ?X ?N ?hs ?hc ?hp ?hdd ?ho ?ht ?U ?_; (case F => k_asm); (case X => k_asm); (case N => k_asm); (case U => (intro d'; k_upd)); (case hs => k_is); (case hc => k_is); (case hp => first | exact pass87 _ | exact pass125 _); (case hdd => exact rfl); (case ho => k_is); (case ht => k_is); k_whole; intro d' h' F' N' l1; (try k_lt l1); (try k_sweep)))))
local macro_rules | `(tactic| walk_at "call ref") => `(tactic| (k_here; k_dflt (refine' exc_callK ?F ?X ?N ?hC ?a ?b ?c ?d ?e ?f ?g ?hr ?_; (case F => k_asm); (case X => k_asm); (case N => k_asm); (case hC => k_is); (case a => decide +kernel); (case b => decide +kernel); (case c => decide +kernel); (case d => k_is); (case e => k_is); (case f => k_is); (case g => k_is); (case hr => exact Nat.le_of_ble_eq_true rfl); k_whole; intro x' t' h' F' N' l1 l2; (try k_lt l1); (try k_lt2 l2); (try k_sweep); k_enter)))
local macro_rules | `(tactic| walk_at "call builtin:getattr") => `(tactic| (k_here; (with_reducible show wpAny _ _ (call (Value.builtin _) [Value.none, Value.str _ _, _]) _ _ _); k_dflt (refine' ga3_noneK ?F ?N ?hA ?nm ?hm ?hz ?_; (case F => k_asm); (case N => k_asm); (case hA => exact rfl); (case nm => decide); (case hm => exact am_miss_of_fast (by kernel_rfl)); (case hz => (rw [sizeLine_eq]; decide)); k_whole; intro h' tk' F' N'; (try k_sweep))))
local macro_rules | `(tactic| walk_at "call builtin:getattr") => `(tactic| (k_here; (with_reducible show wpAny _ _ (call (Value.builtin _) [Value.ref _, Value.str (Str.ofString "name") _, _]) _ _ _); k_dflt (refine' ga_nameK ?F ?X ?N ?e ?d ?_; (case F => k_asm); (case X => k_asm); (case N => k_asm); (case e => assumption); (case d => (first | assumption | (repeat (first | assumption | refine List.Mem.tail _ ?_)))); k_whole; intro nm' tk')))
local macro_rules | `(tactic| walk_at "setAttr ref") => `(tactic| (k_here; (with_reducible show wpAny _ _ (setAttr (Value.ref _) (Str.ofString "expr") _) _ _ _); k_dflt (refine' er_set_expr ?F ?X ?N ?I ?hd ?U ?_; (case I => (first | (refine' instE ?iN ?i1 ?i2; (case iN => k_asm); (case i1 => k_mem); (case i2 => k_mem)) | (refine' instEB ?iF ?i1 ?iN ?i2; (case iF => k_asm); (case i1 => assumption); (case iN => k_asm); (case i2 => k_mem)))); (case F => k_asm); (case X => k_asm); (case N => k_asm); (case hd => exact rfl); (case U => k_upd); k_whole; intro h' F' N'; (try k_sweep))))
local macro_rules | `(tactic| walk_at "setAttr ref") => `(tactic| (k_here; (with_reducible show wpAny _ _ (setAttr (Value.ref _) (Str.ofString "pos") _) _ _ _); k_dflt (refine' er_set_pos ?F ?X ?N ?I ?hd ?U ?_; (case I => (first | (refine' instE ?iN ?i1 ?i2; (case iN => k_asm); (case i1 => k_mem); (case i2 => k_mem)) | (refine' instEB ?iF ?i1 ?iN ?i2; (case iF => k_asm); (case i1 => assumption); (case iN => k_asm); (case i2 => k_mem)))); (case F => k_asm); (case X => k_asm); (case N => k_asm); (case hd => exact rfl); (case U => k_upd); k_whole; intro h' F' N'; (try k_sweep))))
local macro_rules | `(tactic| k_all) => `(tactic| first | (refine ?_; assumption) | exact allLt_at (by assumption) | exact allLt_lt (by assumption) (ltN (by (try dsimp only); omega)))
local macro_rules | `(tactic| k_lt $h:ident) => `(tactic| (replace $h := allLt_of $h; (simp only [AllLt, and_true] at $h:ident); (repeat (refine And.elim ?_ $h; clear $h; intro _ $h))))
local macro_rules | `(tactic| walk_at "call ref") => `(tactic| (k_here; (with_reducible show wpAny _ _ (call (Value.ref U) _ _) _ _ _); (refine Stop.go ?_)))
local macro_rules | `(tactic| walk_at "setAttr ref") => `(tactic| (k_here; (with_reducible show wpAny _ _ (setAttr (Value.ref _) (Str.ofString "oids") _) _ _ _); k_dflt (refine' set_oids ?F ?X ?N ?I ?hd ?hs ?hp ?ht ?hh ?U ?_; (case I => k_inst); (case F => k_asm); (case X => k_asm); (case N => k_asm); (case hd => exact rfl); (case hs => k_is); (case hp => k_is); (case ht => k_is); (case hh => k_is); (case U => k_upd); k_whole; intro h' F' N'; (try k_sweep))))
local macro_rules | `(tactic| kun_tup) => `(tactic| exact Fr.tup (by k_asm) (by assumption))
local macro_rules | `(tactic| walk_at "binaryOp Add ref ref") => `(tactic| (k_here; (with_reducible show wpAny _ _ (binaryOp _ (Value.ref _) (Value.ref _)) _ _ _); k_dflt (refine' add_oids ?F ?N ?a ?b ?i ?j ?_; (case F => k_asm); (case N => k_asm); (case a => exact News.isTup (by k_asm) (by k_mem)); (case b => exact Fr.tup (by k_asm) (by assumption)); (case i => assumption); (case j => assumption)); intro D' h' F' N' l1; (try k_lt l1); (try k_sweep)))
local macro_rules | `(tactic| walk_at "compareOp Is ref ref") => `(tactic| (k_here; (with_reducible show wpAny _ _ (compareOp CmpOp.Is (Value.ref _) (Value.ref _)) _ _ _); k_dflt (refine' kto_is ?a ?b ?n ?c ?_; (case a => first | kto_obj | exact kto_N (by k_asm) (by repeat (first | assumption | refine List.Mem.tail _ ?_))); (case b => first | kto_obj | exact Fr.keep (by k_asm) _ _ (by assumption)); (case n => first | assumption | (refine' kto_neNK ?N ?m ?X ?l; (case N => k_asm); (case m => k_mem); (case X => k_asm); (case l => k_is)) | kto_ne); (case c => first | kto_not | assumption); k_whole)))
local macro_rules | `(tactic| walk_at "compareOp Is ref ref") => `(tactic| (k_here; (with_reducible refine wpAny_is_ref_self ?_)))
local macro_rules | `(tactic| walk_at "call ref") => `(tactic| (k_here; (with_reducible show wpAny _ _ (call (Value.ref _) [Value.ref _, Ctx.text _, _, _, _]) _ _ _); (refine Stop.go ?_)))
local macro_rules | `(tactic| k_is) => `(tactic| with_reducible assumption)
local macro_rules | `(tactic| walk_at "call builtin:getattr") => `(tactic| (k_here; (with_reducible show wpAny _ _ (call (Value.builtin _) [Value.ref _, Value.str _ _, _]) _ _ _); k_dflt (first
  | (refine' ga3_own ?F ?X ?I ?g ?hh ?ha ?hn ?hl ?hv ?hm ?nm ?_; (case I => k_inst); (case F => k_asm); (case X => k_asm); (case g => k_is); (case hh => k_is); (case ha => k_is); (case hn => k_is); (case hl => k_get); (case hv => k_handed); (case hm => k_is); (case nm => decide); k_whole)
  | (refine' ga3_no ?F ?X ?N ?I ?hA ?g ?hh ?ha ?hl ?hm ?nm ?hc ?hcn ?cp ?ms ?_; (case I => k_inst); (case F => k_asm); (case X => k_asm); (case N => k_asm); (case hA => exact rfl); (case g => k_is); (case hh => k_is); (case ha => k_is); (case hl => k_get); (case hm => k_is); (case nm => decide); (case hc => k_is); (case hcn => first | with_reducible assumption | decide +kernel); (case cp => decide +kernel); (case ms => first | with_reducible assumption | decide +kernel); k_whole; intro h' tk' F' N'; (try k_sweep)))))
theorem mcE {C U : Addr} {cd : ClassData} {w : World} {c : Ctx} {e : Ex} {pos : Int} {dep cost : Nat} {Pre Pre' : MSt → Prop} {Post Post' : MSt → MSt → Prop} {Res : (Addr → Obj → Prop) → Value → Prop} {it : Addr} {tn : Tok} {a0 : Value}
  (fa1 : plainGet (hd.heap_39 w.params) C (Str.ofString "oids") = true)
  (fa2 : plainGet (hd.heap_39 w.params) C (Str.ofString "_uncached_match") = true)
  (fa3 : plainGet (hd.heap_39 w.params) C (Str.ofString "name") = true)
  (fb : hasDictIn (hd.heap_39 w.params) C = true)
  (fc1 : findIn (hd.heap_39 w.params) (.ref C) (Str.ofString "oids") = some none)
  (fc2 : findIn (hd.heap_39 w.params) (.ref C) (Str.ofString "_uncached_match") = some (some (.ref U)))
  (fc3 : findIn (hd.heap_39 w.params) (.ref C) (Str.ofString "name") = some (some (.ref 329)))
  (fd : subIn (hd.heap_39 w.params) (.ref C) (.type "module") = some false)
  (fe : clsIn (hd.heap_39 w.params) C = some cd)
  (ff : findIn (hd.heap_39 w.params) (.ref C) "__setattr__" = some (some (.builtin "object.__setattr__")))
  (fg : plainOver (hd.heap_39 w.params) C = true)
  (fh : takerIn (hd.heap_39 w.params) C (Str.ofString "oids") = some none)
  (fi : isClsIn (hd.heap_39 w.params) C = true)
  (fj : slotIn (hd.heap_39 w.params) 329 C = some 2)
  (fk : isFn (hd.heap_39 w.params) (.ref U) = true)
  (fl : keepIn (hd.heap_39 w.params) (.ref U) = true)
  (fz1 : cd.name.cps.foldl (fun k c => k + (Str.utf8Of c).length) 0 ≤ 100)
  (fz2 : ((("'" ++ cd.name.toString ++ "' object has no attribute '" : String) : Str) ++ Str.ofString "oids" ++ ("'" : Str)).length ≤ sizeLine)
  (hob : c.ob e = ⟨.ref C, some (c.dd e), .plain, #[some a0, some (.ref it), some (.str (Str.ofString "") tn)]⟩)
  (hob2 : ∀ e', ∃ C sl nm tk, (C = 367 ∨ C = 425 ∨ C = 451) ∧ c.ob e' = ⟨.ref C, some (c.dd e'), .plain, sl⟩ ∧ (sl[2]?).join = some (.str nm tk))
  (hp : 0 ≤ pos) (hp2 : pos ≤ 1000)
  (hum : Gives w c U e pos dep cost (fun e' j => e' = e ∧ j = pos) Pre' Post' Res)
  (hpre : ∀ σ, Pre σ → Pre' (σ.put e (σ.row e ++ [(pos, .ref 251)])))
  (hpost : ∀ (σ σ₁ σ' : MSt) kvs1 kvs2, σ₁.row = σ.row → Post' (σ₁.put e kvs1) σ' → Post σ (σ'.put e kvs2)) (hpost0 : ∀ (σ σ₁ : MSt) kvs, σ₁.row = σ.row → Post σ (σ₁.put e kvs))
  (hrow : ∀ σ σ' : MSt, σ'.row = σ.row → Pre σ → Pre σ')
  (hres : ∀ kn r, Res kn r → r = .none ∨ ∃ nd o, r = .ref nd ∧ @Ne Nat nd 251 ∧ kn nd o ∧ o.cls = .ref 243)
  (hext : ∀ kn kn' r, KExt kn kn' → Res kn r → Res kn' r)
  (hhit : ∀ Bd M σ v, Inv w c (fun _ _ => False) Bd M σ → Pre σ → valueAt (σ.row e) pos = some v → Res (Mem M) v)
  (hlv : e = .P ∨ e = .Q ∨ e = .T → ∀ kn r, Res kn r → LitVal kn c e pos r) :
  Gives w c 297 e pos (dep + 1) (cost + 2) (fun _ _ => False) Pre Post Res := by
  refine ⟨?_⟩
  intro dp un gd cn sn sg sc sm a ccd cl outer A₀ base h₀ L m s p loose mean mg mb Q E M rest σ Bd tp B F X T hd hu N dj G I hBd pre ret
  refine wpAny_call ?_
  k_dflt (refine' code_defR (hid := M) (rest := rest) ?k1 ?k2 ?k3 ?k4 ?k5 ?kA ?kF ?kK ?k6 ?k7 ?k8 ?k9 ?kB ?dj ?_ ?c2 ?c3 ?c4 ?c5; (case kA => exact rfl); (case kF => exact rfl); (case kK => exact rfl); (case k1 => exact B); (case k2 => exact F); (case k3 => exact X); (case k4 => exact N); (case k5 => exact T); (case k6 => k_is); (case k7 => k_is); (case k8 => k_room); (case k9 => exact BindsTo.of_eq rfl); (case c5 => decide); (case kB => exact locs rfl); (case dj => exact dj); (case c2 => exact rfl); (case c3 => exact rfl); (case c4 => exact rfl); k_whole; intro g' L' h' FG' F' N' R' LT' B' X' T' st'; (try dsimp only); (try k_fold))
  have G' := G.at st' R'
  have hx' : g'.get? (c.ad e) = some ⟨.ref C, some (c.dd e), .plain, #[some a0, some (.ref it), some (.str (Str.ofString "") tn)]⟩ := hob ▸ (G'.imm e).g
  have herr' : g'.get? c.err = some (errObj c.derr c.at_) := G'.err.g
  have frM : ∀ a o, (a, o) ∈ M → g'.get? a = none := fun a o h => (N' _ h).2.2
  have F1 : Fr g' L' h' (mP (.ref (c.ad e)) c.text (.int pos tp) (.ref c.cache) (.ref c.err) none none) := Fr.eqm F' mP_bind
  clear F'
  clear B F T
  refine cut_seq (P := fun s' => Stop (∃ h'' tk'' ov σ₁ k row M₁, s' = ⟨h'', s.gens, s.drawn, tk'', s.os⟩ ∧ Fr g' L' h'' (mP (.ref (c.ad e)) c.text (.int pos tp) (.ref c.cache) (.ref c.err) ov (some (.ref row))) ∧ News g' L' h'' M₁ ∧
    Inv w c (fun _ _ => False) Bd M₁ σ₁ ∧ σ₁.ask e = some (k, row) ∧ σ₁.row = σ.row ∧ σ.Le σ₁ ∧ Ext M M₁)) ?tail ?head
  case tail =>
    rintro s' ⟨⟨h'', tk'', ov, σ₁, k, row, M₁, rfl, F2, N2, I2, ha, hro, le, X2⟩⟩
    obtain ⟨oR, ER, hh, tkd, t, nd, oth, S⟩ := inv_split N2 G' I2 ha
    have N3 := News.sub N2 fun p hp => (S.iff p).mpr hp
    obtain ⟨h1, h2, h3, k1, k2, k3, tx, epos, te, ev, ne, rfl, he1, he2, hev⟩ := S.er
    have hRd := S.dict
    have lo := S.lo
    have n1 := S.n1
    have n2 := S.n2
    have n3 := S.n3
    have e1 := S.e1
    have e2 := S.e2
    have e3 := S.e3
    have hsz : (σ₁.row e).length ≤ 100000 := Nat.le_trans (I2.size e) (by omega)
    have pre1 : Pre σ₁ := hrow _ _ hro pre
    clear N2 N'
    cases hv : valueAt (σ₁.row e) pos with
    | some v =>
      have RH := hhit _ _ _ _ I2 pre1 hv
      rcases hres _ _ RH with rfl | ⟨ndr, onr, rfl, hnr, mnr, cnr⟩
      · rcases hev with rfl | ⟨e', rfl⟩
        case' inr =>
          have hex : ExB g' (c.ad e') (c.dd e') := exb G' (hob2 e')
          obtain ⟨od, hod⟩ := ddin G' I2 ha S e'
        all_goals k_steps
        all_goals rename News h₀ _ _ _ => N9
        all_goals rename News g' _ _ _ => Ng
        all_goals have J := leave_join N R' (by assumption) N9 Ng
        all_goals first
          | (obtain ⟨Z1, Z2, Z3, Z4⟩ := mc_finH (e := e) G' S I2 ha RH hext (ErOk.mk hp hp2)
             exact ret _ _ _ _ _ (by assumption) J.1 J.2 (X2.trans Z2) (Z1.le (by omega)) (fun e' x h => Z3 e' x (le e' x h)) (hpost0 _ _ _ hro) Z4)
          | (obtain ⟨Z1, Z2, Z3, Z4⟩ := mc_finH (e := e) G' S I2 ha RH hext S.er
             exact ret _ _ _ _ _ (by assumption) J.1 J.2 (X2.trans Z2) (Z1.le (by omega)) (fun e' x h => Z3 e' x (le e' x h)) (hpost0 _ _ _ hro) Z4)
      · have cnr' : onr.cls ≠ Value.type "tuple" := fun q => by rw [cnr] at q; cases q
        have N7 : News g' L' h'' ((ndr, onr) :: (row, oR) :: (c.derr, dictOf (erL h1 h2 h3 k1 k2 k3 tx (.int epos te) ev) ne) :: (c.dd e, oidsDict hh tkd t nd) :: oth) := fun p hp => (List.mem_cons.mp hp).elim (fun q => by rw [q]; exact N3 _ ((S.iff _).mp mnr)) (N3 p)
        clear N3
        k_steps
        all_goals rename News h₀ _ _ _ => N9
        all_goals rename News g' _ _ _ => Ng
        all_goals have J := leave_join N R' (by assumption) (News.sub N9 fun p hp => .tail _ hp) (News.sub Ng fun p hp => .tail _ hp)
        all_goals obtain ⟨Z1, Z2, Z3, Z4⟩ := mc_finH (e := e) G' S I2 ha RH hext S.er
        all_goals exact ret _ _ _ _ _ (by assumption) J.1 J.2 (X2.trans Z2) (Z1.le (by omega)) (fun e' x h => Z3 e' x (le e' x h)) (hpost0 _ _ _ hro) Z4
    | none => 
      k_steps
      refine Stop.mk ?_
      k_dflt (refine' Gives.use hum ?B ?F ?X ?T ?hd ?hu ?N rfl ?r0)
      case B => k_asm
      case F => k_asm
      case X => k_asm
      case T => k_asm
      case N => k_asm
      case hd => ((try simp only [depth_mark, depth_deeper, depth_under_make, depth_under_kw, depth_in1]); (try dsimp only [ktrTop]); omega)
      case hu => ((try simp only [units_in1, units_deeper, Around.mark_units]); (try dsimp only [ktrTop]); omega)
      rename News _ _ _ _ => N4
      rename Obj.IsDictOf _ _ _ => d4
      have n1' : ∀ p ∈ (c.dd e, oidsDict hh tkd t nd) :: oth, p.1 ≠ row := List.forall_mem_cons.mpr ⟨Ne.symm e2, n1⟩
      have n2' : ∀ p ∈ (c.dd e, oidsDict hh tkd t nd) :: oth, p.1 ≠ c.derr := List.forall_mem_cons.mpr ⟨e3, n2⟩
      have I3 := I2.congr fun p hp => (S.iff p).mp hp
      obtain ⟨I4, X4, le4⟩ := Inv.put (bz' := fun e' j => e' = e ∧ j = pos) (Bd' := Bd + 1) G' I3 ha n1' n2' e1 S.dict S.er d4 S.er (by
        intro hlit j v hj hv'
        rw [valueAt_app] at hv'
        cases q : valueAt (σ₁.row e) j with
        | some u => rw [q, Option.some_or] at hv'; exact I3.lits e hlit j v (fun h => h) (q.trans hv')
        | none =>
          rw [q, Option.none_or] at hv'
          split at hv'
          · rename_i z; exact absurd ⟨rfl, z.symm⟩ hj
          · cases hv') (fun _ _ _ _ h => h) (by rw [List.length_append]; exact Nat.succ_le_succ (I2.size e)) (Nat.le_succ _)
      refine ⟨_, [], _, Bd + 1, (fun p hp => by rw [List.append_nil] at hp; exact hp), (fun _ _ _ h => nomatch h), G', I4, by omega, hpre _ pre1, ?_⟩
      intro r new σ' h5 tk5 F5 N5 dj5 X5 I5 le5 post5 R5
      rw [List.append_nil] at N5
      have ha5 : σ'.ask e = some (k, row) := le5 e _ ha
      obtain ⟨oR5, ER5, hh5, tkd5, t5, nd5, oth5, S5⟩ := inv_split N5 G' I5 ha5
      have N6 := News.sub N5 fun p hp => (S5.iff p).mpr hp
      have hE5 := S5.er
      obtain ⟨h1, h2, h3, k1, k2, k3, tx, epos, te, ev, ne, rfl, he1, he2, hev⟩ := hE5
      have d5 := S5.dict
      have m1 := S5.n1
      have m2 := S5.n2
      have m3 := S5.n3
      have e1 := S5.e1
      have e2 := S5.e2
      have e3 := S5.e3
      have d5c := dictOf_cls d5
      have hsz5 : (σ'.row e).length ≤ 100000 := Nat.le_trans (I5.size e) (by omega)
      (try clear N4)
      (try clear N5)
      (try clear F2)
      (try clear d4)
      rcases hres _ _ R5 with rfl | ⟨ndr, onr, rfl, hnr, mnr, cnr⟩
      · rcases hev with rfl | ⟨e', rfl⟩
        case' inr =>
          have hex : ExB g' (c.ad e') (c.dd e') := exb G' (hob2 e')
          obtain ⟨od, hod⟩ := ddin G' I5 ha5 S5 e'
        all_goals k_steps
        all_goals rename News h₀ _ _ _ => N9
        all_goals rename News g' _ _ _ => Ng
        all_goals rename Obj.IsDictOf _ _ _ => d9
        all_goals have J := leave_join N R' (by assumption) N9 Ng
        all_goals first
          | (obtain ⟨Z1, Z2, Z3, Z4⟩ := mc_fin (e := e) G' S5 I5 ha5 R5 hext hlv d9 (ErOk.mk hp hp2)
             exact ret _ _ _ _ _ (by assumption) J.1 J.2 (((X2.trans (Ext.of_sub fun p hp => (S.iff p).mp hp)).trans X4).trans (X5.trans Z2)) (Z1.le (by omega)) (fun e' x h => Z3 e' x (le5 e' x (le e' x h))) (hpost _ _ _ _ _ hro post5) Z4)
          | (obtain ⟨Z1, Z2, Z3, Z4⟩ := mc_fin (e := e) G' S5 I5 ha5 R5 hext hlv d9 S5.er
             exact ret _ _ _ _ _ (by assumption) J.1 J.2 (((X2.trans (Ext.of_sub fun p hp => (S.iff p).mp hp)).trans X4).trans (X5.trans Z2)) (Z1.le (by omega)) (fun e' x h => Z3 e' x (le5 e' x (le e' x h))) (hpost _ _ _ _ _ hro post5) Z4)
      · have hnrow : @Ne Nat ndr row := fun q => by
          subst q
          rw [news_uniq N6 _ _ _ (List.Mem.head _) ((S5.iff _).mp mnr), cnr] at d5c
          cases d5c
        have cnr' : onr.cls ≠ Value.type "tuple" := fun q => by rw [cnr] at q; cases q
        have N7 : News g' L' h5 ((ndr, onr) :: (row, oR5) :: (c.derr, dictOf (erL h1 h2 h3 k1 k2 k3 tx (.int epos te) ev) ne) :: (c.dd e, oidsDict hh5 tkd5 t5 nd5) :: oth5) := fun p hp => (List.mem_cons.mp hp).elim (fun q => by rw [q]; exact N6 _ ((S5.iff _).mp mnr)) (N6 p)
        clear N6
        k_steps
        all_goals rename News h₀ _ _ _ => N9
        all_goals rename News g' _ _ _ => Ng
        all_goals rename Obj.IsDictOf _ _ _ => d9
        all_goals have J := leave_join N R' (by assumption) (News.sub N9 fun p hp => .tail _ hp) (News.sub Ng fun p hp => .tail _ hp)
        all_goals obtain ⟨Z1, Z2, Z3, Z4⟩ := mc_fin (e := e) G' S5 I5 ha5 R5 hext hlv d9 S5.er
        all_goals exact ret _ _ _ _ _ (by assumption) J.1 J.2 (((X2.trans (Ext.of_sub fun p hp => (S.iff p).mp hp)).trans X4).trans (X5.trans Z2)) (Z1.le (by omega)) (fun e' x h => Z3 e' x (le5 e' x (le e' x h))) (hpost _ _ _ _ _ hro post5) Z4
  case head =>
    have IV := I
    refine for_tup (h₀ := g') rfl ?_
    cases ha0 : σ.ask e with
    | some kr =>
      obtain ⟨k, row⟩ := kr
      obtain ⟨hh, tkd, t, nd, it', tk', mD, mt, mi⟩ := I.dict2 e k row ha0
      obtain ⟨oC, mC, dC⟩ := I.cache
      obtain ⟨hval, lo, lt, oR, mR, dR⟩ := I.asked e k row ha0
      have lo2 := G.lo
      have N3 : News g' L' h' ((c.dd e, oidsDict hh tkd t nd) :: (t, tupObj (titems (it' :: c.its e))) :: (it', tupObj #[.int k tk', .ref row]) :: (c.cache, oC) :: M) := News.sub N' (by
        simp only [List.forall_mem_cons]
        exact ⟨mD, mt, mi, mC, fun _ h => h⟩)
      k_steps
      refine TupHere.of (vs := (it' :: c.its e).map Value.ref) (by k_asm) (by k_asm) ?_ ?_
      · exact ⟨_, News.get (by k_asm) (by k_mem), rfl, _, rfl⟩
      intro I hI h tk oi F N hI2
      k_steps
      all_goals rename News g' _ _ _ => N9
      all_goals rename Fr g' _ _ _ => F9
      any_goals exact trivial
      all_goals refine Stop.mk ?_
      all_goals exact ⟨_, _, _, σ, k, row, M, rfl, Fr.eqm F9 mP_set2, News.sub N9 (fun p hp => by repeat (first | exact hp | refine List.Mem.tail _ ?_)), by assumption, ha0, rfl, MSt.Le.refl, Ext.refl⟩
    | none =>
      obtain ⟨oC, mC, dC⟩ := I.cache
      have lo2 := G.lo
      have hro := I.room ha0
      have hkn := I.fresh
      have hkv : σ.kvs.length ≤ 8 := by omega
      have e1 : @Ne Nat (c.dd e) c.cache := Nat.ne_of_lt (G.dds e)
      by_cases hold : c.old e = []
      · have mD := I.dict0 e ha0 hold
        obtain ⟨oth, iff, n1, n2⟩ := split2 N' mD mC e1
        have N3 := News.sub N' fun p hp => (iff p).mpr hp
        k_steps
        refine TupHere.of (vs := []) (by k_asm) (by k_asm) ?_ ?_
        · exact ⟨_, News.get (by k_asm) (by k_mem), rfl, _, rfl⟩
        intro I1 hI h tk F N
        have hits : c.its e = [] := (G'.its e).nil_of.mpr hold
        k_steps
        all_goals rename News g' _ _ _ => N9
        all_goals rename Fr g' _ _ _ => F9
        all_goals refine Stop.mk ?_
        all_goals exact ask_fin0 G' IV ha0 iff rfl (dictOf_cls dC) hits F9 mP_set N9 valLen (by assumption) (by assumption) (by assumption) (by assumption) (by assumption) (by assumption)
      · obtain ⟨hh, tkd, nd, mD⟩ := I.dict1 e ha0 hold
        have mt : IsTup g' (c.told e) (titems (c.its e)) := ⟨_, (G'.told e hold).g, rfl, _, rfl⟩
        have hsm := G.small e
        have hine : c.its e ≠ [] := fun q => hold ((G'.its e).nil_of.mp q)
        obtain ⟨oth, iff, n1, n2⟩ := split2 N' mD mC e1
        have N3 := News.sub N' fun p hp => (iff p).mpr hp
        k_steps
        refine TupHere.of (vs := (c.its e).map Value.ref) (by k_asm) (by k_asm) ?_ ?_
        · exact Fr.tup (by k_asm) mt
        intro I1 hI
        refine turns_ind (fun ov ev => mP (.ref (c.ad e)) c.text (.int pos tp) (.ref c.cache) (.ref c.err) ov ev) ?last ?step (G'.its e) 0 none none
        case last =>
          intro i ov ev h tk F N
          k_steps
          all_goals rename News g' _ _ _ => N9
          all_goals rename Fr g' _ _ _ => F9
          all_goals refine Stop.mk ?_
          all_goals exact ask_finP G' IV ha0 iff rfl (dictOf_cls dC) F9 mP_set (News.sub N9 drop2) valLen (by assumption) (by assumption) (by assumption) (by assumption) (by assumption) (by assumption)
        case step =>
          intro it1 k1 row1 o1 tk1 r1 i ov ev hit1 hro1 next h tk oi F N hI2
          have ht1 : IsTup g' it1 #[.int k1 tk1, .ref row1] := ⟨_, hit1, rfl, _, rfl⟩
          cases hva : valueAt σ.kvs k1 with
          | none =>
            k_steps
            all_goals rename News g' _ _ _ => N9
            all_goals rename Fr g' _ _ _ => F9
            all_goals refine Stop.mk ?_
            all_goals exact ⟨_, _, _, _, rfl, Fr.eqm F9 mP_set2, N9, fun p hp => Nat.ne_of_lt (hI p hp), Fr.tup F9 mt, next _ _⟩
          | some v1 =>
            obtain ⟨a1, oa1, rfl, hlt1, ma1, ca1⟩ := IV.vals _ _ hva
            have hne1 : @Ne Nat a1 row1 := fun q => by
              have z := frM a1 oa1 ma1
              rw [show a1 = row1 from q, hro1] at z
              cases z
            have ca2 : oa1.cls ≠ Value.type "tuple" := fun q => by rw [ca1] at q; exact absurd (Value.type.inj q) (by decide)
            have ma2 := (iff _).mp ma1
            k_steps
            all_goals rename News g' _ _ _ => N9
            all_goals rename Fr g' _ _ _ => F9
            all_goals refine Stop.mk ?_
            all_goals exact ⟨_, _, _, _, rfl, Fr.eqm F9 mP_set2, N9, fun p hp => Nat.ne_of_lt (hI p hp), Fr.tup F9 mt, next _ _⟩
theorem cls_mk {K : Frag} {C : Addr} {cd : ClassData} (e : clsIn K C = some cd) (y : cd.name.cps.foldl (fun k c => k + (Str.utf8Of c).length) 0 ≤ 100) (z : ((("'" ++ cd.name.toString ++ "' object has no attribute '" : String) : Str) ++ Str.ofString "oids" ++ ("'" : Str)).length ≤ sizeLine) : ∃ cd, clsIn K C = some cd ∧ cd.name.cps.foldl (fun k c => k + (Str.utf8Of c).length) 0 ≤ 100 ∧ ((("'" ++ cd.name.toString ++ "' object has no attribute '" : String) : Str) ++ Str.ofString "oids" ++ ("'" : Str)).length ≤ sizeLine := ⟨cd, e, y, z⟩
theorem cls_facts (w : World) {C : Addr} (h : C = 367 ∨ C = 425) : ∃ cd, clsIn (hd.heap_39 w.params) C = some cd ∧ cd.name.cps.foldl (fun k c => k + (Str.utf8Of c).length) 0 ≤ 100 ∧ ((("'" ++ cd.name.toString ++ "' object has no attribute '" : String) : Str) ++ Str.ofString "oids" ++ ("'" : Str)).length ≤ sizeLine := by
  rcases h with rfl | rfl
  · refine' cls_mk ?e1 ?y1 ?z1
    case e1 => k_is
    case y1 => decide +kernel
    case z1 => decide +kernel
  · refine' cls_mk ?e2 ?y2 ?z2
    case e2 => k_is
    case y2 => decide +kernel
    case z2 => decide +kernel
end Mine
end
section
open PySem PySem.W PyProof.Rows PySem.Calls PySem.Spec
set_option Elab.async false
set_option maxRecDepth 100000
set_option maxHeartbeats 1000000
namespace Mine
theorem Ctx.ob_lit {c : Ctx} {e : Ex} (hl : e = .P ∨ e = .Q ∨ e = .T) : c.ob e = litObj (c.dd e) (.str (c.lit (c.len e)) (c.lt e)) (c.it e) (.str (Str.ofString "") (c.nt e)) := by
  rcases hl with rfl | rfl | rfl <;> rfl
theorem Ctx.len_le {c : Ctx} (Fi : c.Fine) (e : Ex) : c.len e ≤ 4 := by
  cases e
  · exact Nat.zero_le _
  · exact Nat.zero_le _
  · exact Fi.p4
  · exact Fi.q4
  · exact Fi.r4
theorem ne251 {w : World} {h₀ h : Heap} {L nd : Addr} {o : Obj} {news : List (Addr × Obj)} (X : (hd.heap_39 w.params).In h₀) (N : News h₀ L h news) (hm : (nd, o) ∈ news) : @Ne Nat nd 251 := by
  intro e
  have e : nd = 251 := e
  have h1 := (N _ hm).2.2
  obtain ⟨o', ho'⟩ := Option.isSome_iff_exists.mp (show ((hd.heap_39 w.params).lookup 251).isSome = true by kernel_rfl)
  have h2 := X 251 _ ho'
  dsimp only at h1
  rw [e, h2] at h1
  cases h1
theorem um_lit {w : World} {c : Ctx} {e : Ex} (hl : e = .P ∨ e = .Q ∨ e = .T) (Fi : c.Fine) {k : Nat} (hk : k ≤ c.n) :
    Gives w c 356 e (k : Int) 0 0 (bzA e k) (fun _ => True) (fun σ σ' => σ'.row = σ.row) (fun kn r => LitVal kn c e k r) := by
  refine ⟨?_⟩
  intro dp un gd cn sn sg sc sm a ccd cl outer A₀ base h₀ L m s p loose mean mg mb Q E M rest σ Bd tp B F X T hd hu N dj G I hBd pre ret
  have n16 := Fi.n16
  have hx : Kn h₀ (M ++ rest) (c.ad e) (litObj (c.dd e) (.str (c.lit (c.len e)) (c.lt e)) (c.it e) (.str (Str.ofString "") (c.nt e))) := by
    rw [← Ctx.ob_lit hl]
    exact (G.imm e).mono fun p hp => List.mem_append_right _ hp
  obtain ⟨od, hod⟩ := I.dd e
  have hst := Fi.starts (c.len e) k (by omega) (by omega)
  have h4 := Ctx.len_le Fi e
  refine lit_um (rest := M ++ rest) B F X T (by omega) (by omega) hx (.inr (List.mem_append_left _ hod)) (by omega) (by omega) (by rw [Fi.len]; omega) N ?_ ?_
  · intro hs h' tk' F' N'
    rw [hst] at hs
    exact ret .none M σ h' tk' F' N' dj Ext.refl I MSt.Le.refl rfl (.inl ⟨rfl, of_decide_eq_false hs⟩)
  · intro hs nd dn lc tE h' tk' F' N' f1 f2 f3
    rw [hst] at hs
    have hs := of_decide_eq_true hs
    have sub : ∀ p ∈ M, p ∈ (lc, listOf #[] 0) :: (nd, nodeObj dn lc (c.ad e) c.text (.int (k : Int) tp) (.int ((k : Int) + ((c.lit (c.len e)).length : Int)) tE)) :: (dn, dictOf [] 0) :: M := fun p hp => .tail _ (.tail _ (.tail _ hp))
    refine ret (.ref nd) ((lc, listOf #[] 0) :: (nd, nodeObj dn lc (c.ad e) c.text (.int (k : Int) tp) (.int ((k : Int) + ((c.lit (c.len e)).length : Int)) tE)) :: (dn, dictOf [] 0) :: M) σ h' tk' F' N' ?_ (Ext.of_sub sub) (I.congr sub) MSt.Le.refl rfl ?_
    · intro p hp q hq z
      rcases List.mem_cons.mp hp with rfl | hp
      · exact f2 q (List.mem_append_right _ hq) z.symm
      rcases List.mem_cons.mp hp with rfl | hp
      · exact f1 q (List.mem_append_right _ hq) z.symm
      rcases List.mem_cons.mp hp with rfl | hp
      · exact f3 q (List.mem_append_right _ hq) z.symm
      · exact dj p hp q hq z
    · refine .inr ⟨nd, rfl, ne251 X N' (.tail _ (.head _)), hs, lc, dn, tp, tE, ?_, .head _, _, .tail _ (.tail _ (.head _))⟩
      have : ((k : Int) + ((c.lit (c.len e)).length : Int)) = (k : Int) + (c.len e : Int) := by rw [Fi.len]
      rw [this]
      exact .tail _ (.head _)
theorem LitVal.res {kn : Addr → Obj → Prop} {c : Ctx} {e : Ex} {j : Int} {r : Value} (h : LitVal kn c e j r) : r = .none ∨ ∃ nd o, r = .ref nd ∧ @Ne Nat nd 251 ∧ kn nd o ∧ o.cls = .ref 243 := by
  rcases h with ⟨rfl, _⟩ | ⟨nd, rfl, hn, _, lc, dn, tS, tE, a, _⟩
  · exact .inl rfl
  · exact .inr ⟨nd, _, rfl, hn, a, rfl⟩
/-- a literal's match_core -/
theorem mc_lit {w : World} {c : Ctx} {e : Ex} (hl : e = .P ∨ e = .Q ∨ e = .T) (Fi : c.Fine) {k : Nat} (hk : k ≤ c.n) :
    Gives w c 297 e (k : Int) 1 2 bz0 (fun _ => True) (fun σ σ' => ∀ e', e' ≠ e → σ'.row e' = σ.row e') (fun kn r => LitVal kn c e k r) := by
  have n16 := Fi.n16
  obtain ⟨cd, fe, fz1, fz2⟩ := cls_facts w (.inl rfl : (367 : Addr) = 367 ∨ (367 : Addr) = 425)
  refine mcE (C := 367) (U := 356) (cd := cd) (fa1 := by kernel_rfl) (fa2 := by kernel_rfl) (fa3 := by kernel_rfl) (fb := by kernel_rfl) (fc1 := by kernel_rfl) (fc2 := by kernel_rfl) (fc3 := by kernel_rfl) (fd := by kernel_rfl) (ff := by kernel_rfl) (fg := by kernel_rfl) (fh := by kernel_rfl) (fi := by kernel_rfl) (fj := by kernel_rfl) (fk := by kernel_rfl) (fl := by kernel_rfl) (fe := fe) (fz1 := fz1) (fz2 := fz2) (pos := (k : Int)) (Pre' := fun _ => True) (Post' := fun σ σ' => σ'.row = σ.row) (dep := 0) (cost := 0) (hob := Ctx.ob_lit hl) (hp := by omega) (hp2 := by omega) (hum := um_lit hl Fi hk) (hpre := fun _ _ => trivial) (hrow := fun _ _ _ _ => trivial) (hres := fun _ _ h => h.res) (hext := fun _ _ _ k h => h.ext k)
    (hhit := fun Bd M σ v I _ hv => I.lits e hl _ v (fun h => h) hv) (hlv := fun _ _ _ h => h) (hob2 := ?_) (hpost := ?_) (hpost0 := ?_)
  · intro e'
    cases e'
    · exact ⟨451, _, _, _, by decide, rfl, rfl⟩
    · exact ⟨425, _, _, _, by decide, rfl, rfl⟩
    · exact ⟨367, _, _, _, by decide, rfl, rfl⟩
    · exact ⟨367, _, _, _, by decide, rfl, rfl⟩
    · exact ⟨367, _, _, _, by decide, rfl, rfl⟩
  · intro σ σ₁ σ' kvs1 kvs2 h1 h2 e' ne
    show (if e' = e then _ else σ'.row e') = _
    rw [if_neg ne, h2]
    show (if e' = e then _ else σ₁.row e') = _
    rw [if_neg ne, h1]
  · intro σ σ₁ kvs h1 e' ne
    show (if e' = e then _ else σ₁.row e') = _
    rw [if_neg ne, h1]
/-- what a sequence at a place gives -/
def SOk (c : Ctx) (k : Nat) : Prop := c.p ≤ c.n - k ∧ 0 < (reach c.p c.q c.r (c.n - k - c.p)).1 ∧ c.q ≤ c.n - k - c.p - (reach c.p c.q c.r (c.n - k - c.p)).1
def SNode (kn : Addr → Obj → Prop) (c : Ctx) (k : Nat) (nd : Addr) : Prop :=
  ∃ lc dn a b z od ep tS tE, kn nd (nodeObj dn lc (c.ad .S) c.text (.int (k : Int) tS) (.int ((k : Int) + c.p + (reach c.p c.q c.r (c.n - k - c.p)).1 + c.q) tE)) ∧ kn lc (listOf #[.ref a, .ref b, .ref z] ep) ∧ kn dn od ∧
    LitNode kn c .P a k (k + c.p) ∧ RNode kn c b (k + c.p) (k + c.p + (reach c.p c.q c.r (c.n - k - c.p)).1) (reach c.p c.q c.r (c.n - k - c.p)).2 ∧ LitNode kn c .Q z (k + c.p + (reach c.p c.q c.r (c.n - k - c.p)).1) (k + c.p + (reach c.p c.q c.r (c.n - k - c.p)).1 + c.q)
def SVal (c : Ctx) (k : Nat) (kn : Addr → Obj → Prop) (v : Value) : Prop := (v = .none ∧ ¬ SOk c k) ∨ (SOk c k ∧ ∃ nd, v = .ref nd ∧ @Ne Nat nd 251 ∧ SNode kn c k nd)
def RVal (c : Ctx) (k : Nat) (kn : Addr → Obj → Prop) (v : Value) : Prop :=
  (v = .none ∧ (reach c.p c.q c.r (c.n - k)).1 = 0) ∨ (0 < (reach c.p c.q c.r (c.n - k)).1 ∧ ∃ nd, v = .ref nd ∧ @Ne Nat nd 251 ∧ RNode kn c nd k (k + (reach c.p c.q c.r (c.n - k)).1) (reach c.p c.q c.r (c.n - k)).2)
theorem SNode.ext {kn kn' : Addr → Obj → Prop} {c : Ctx} {k : Nat} {nd : Addr} (x : KExt kn kn') (h : SNode kn c k nd) : SNode kn' c k nd := by
  obtain ⟨lc, dn, a, b, z, od, ep, tS, tE, h1, h2, h3, h4, h5, h6⟩ := h
  obtain ⟨od', h3'⟩ := x.2 _ _ h3
  exact ⟨lc, dn, a, b, z, od', ep, tS, tE, x.1 _ _ h1 cls_dict_ne, x.1 _ _ h2 cls_list_ne, h3', h4.ext x, h5.ext x, h6.ext x⟩
theorem SVal.ext {kn kn' : Addr → Obj → Prop} {c : Ctx} {k : Nat} {v : Value} (x : KExt kn kn') (h : SVal c k kn v) : SVal c k kn' v := by
  rcases h with h | ⟨a, nd, b, d, e⟩
  · exact .inl h
  · exact .inr ⟨a, nd, b, d, e.ext x⟩
theorem RVal.ext {kn kn' : Addr → Obj → Prop} {c : Ctx} {k : Nat} {v : Value} (x : KExt kn kn') (h : RVal c k kn v) : RVal c k kn' v := by
  rcases h with h | ⟨a, nd, b, d, e⟩
  · exact .inl h
  · exact .inr ⟨a, nd, b, d, e.ext x⟩
theorem SVal.res {kn : Addr → Obj → Prop} {c : Ctx} {k : Nat} {r : Value} (h : SVal c k kn r) : r = .none ∨ ∃ nd o, r = .ref nd ∧ @Ne Nat nd 251 ∧ kn nd o ∧ o.cls = .ref 243 := by
  rcases h with ⟨rfl, _⟩ | ⟨_, nd, rfl, hn, lc, dn, a, b, z, od, ep, tS, tE, h1, _⟩
  · exact .inl rfl
  · exact .inr ⟨nd, _, rfl, hn, h1, rfl⟩
theorem RNode.obj {kn : Addr → Obj → Prop} {c : Ctx} {nd : Addr} {st en : Int} {d : Nat} (h : RNode kn c nd st en d) : ∃ dn lc tS tE od, kn nd (nodeObj dn lc (c.ad .R) c.text (.int st tS) (.int en tE)) ∧ kn dn od := by
  cases h with
  | base a b d _ _ => exact ⟨_, _, _, _, _, a, d⟩
  | step a b d _ _ _ _ _ _ _ _ => exact ⟨_, _, _, _, _, a, d⟩
theorem RVal.res {kn : Addr → Obj → Prop} {c : Ctx} {k : Nat} {r : Value} (h : RVal c k kn r) : r = .none ∨ ∃ nd o, r = .ref nd ∧ @Ne Nat nd 251 ∧ kn nd o ∧ o.cls = .ref 243 := by
  rcases h with ⟨rfl, _⟩ | ⟨_, nd, rfl, hn, h1⟩
  · exact .inl rfl
  · obtain ⟨_, _, _, _, _, a, _⟩ := h1.obj
    exact .inr ⟨nd, _, rfl, hn, a, rfl⟩
theorem reach_eq (p q r left : Nat) : reach p q r left = if 1 ≤ p ∧ p ≤ left then (if 0 < (reach p q r (left - p)).1 ∧ q ≤ left - p - (reach p q r (left - p)).1 then (p + (reach p q r (left - p)).1 + q, (reach p q r (left - p)).2 + 1) else if r ≤ left then (r, 1) else (0, 0)) else if r ≤ left then (r, 1) else (0, 0) := by
  rw [reach]
  split <;> rfl
/-- the keys of the rows of R and S lie before a place -/
def KeysLt (σ : MSt) (e : Ex) (k : Int) : Prop := ∀ j v, valueAt (σ.row e) j = some v → j < k
theorem reach_le (p q r : Nat) : ∀ left, (reach p q r left).1 ≤ left := by
  intro left
  induction left using Nat.strongRecOn with
  | ind left ih =>
    rw [reach_eq]
    split
    · rename_i h
      have := ih (left - p) (by omega)
      split
      · rename_i h2
        show p + _ + q ≤ left
        omega
      · split
        · assumption
        · exact Nat.zero_le _
    · split
      · assumption
      · exact Nat.zero_le _
theorem Inv.rebz {w : World} {c : Ctx} {bz bz' : Ex → Int → Prop} {Bd : Nat} {M : List (Addr × Obj)} {σ : MSt} (I : Inv w c bz Bd M σ) (h : ∀ e, e = .P ∨ e = .Q ∨ e = .T → ∀ j, ¬ bz' e j → ¬ bz e j) : Inv w c bz' Bd M σ :=
  { I with lits := fun e hl j v hb => I.lits e hl j v (h e hl j hb) }
theorem Gnd.more {c : Ctx} {g : Heap} {l : List (Addr × Obj)} (G : Gnd c (Kn g [])) : Gnd c (Kn g l) where
  imm e := (G.imm e).imp id (fun h => nomatch h)
  tR := G.tR.imp id (fun h => nomatch h)
  tS := G.tS.imp id (fun h => nomatch h)
  err := G.err.imp id (fun h => nomatch h)
  told e h := (G.told e h).imp id (fun h => nomatch h)
  its e := (G.its e).map fun _ _ a => a.imp id (fun h => nomatch h)
  small := G.small
  dds := G.dds
  derrlt := G.derrlt
  ddne := G.ddne
  ddder := G.ddder
  lo := G.lo
theorem Gives.use2 {w : World} {c : Ctx} {f : Addr} {e : Ex} {pos : Int} {dep cost : Nat} {Pre : MSt → Prop} {Post : MSt → MSt → Prop} {Res : (Addr → Obj → Prop) → Value → Prop} (hg : Gives w c f e pos dep cost bz0 Pre Post Res)
    {dp un : Nat} {gd : Option (List Code)} {cn : Str} {sn : List (Str × NameKind)} {sg sc : Bool} {sm : List (Str × Const)} {a : Addr} {ccd : Value} {cl : List (Str × Addr)} {outer : List Env} {A₀ : Around} {base h₀ : Heap} {L : Addr} {m : Str → Option Value} {s : Shared}
    {p : Program} {loose : List Str} {mean : ExcName → Option Value} {mg mb : Str → Option Value} {Q E : Value → Shared → Prop} {pre M : List (Addr × Obj)} {tp : Tok} {pos' : Int} {y : Addr × Obj} {σ : MSt} {Bd : Nat}
    (B : Below A₀ base outer h₀) (F : Fr h₀ L s.heap m) (X : (hd.heap_39 w.params).In h₀) (T : Top p loose mean mg mb h₀) (hd : dp + dep + 30 < recursionLimit) (hu : un + 10 * dep + 300 < cLine)
    (N : News h₀ L s.heap (pre ++ y :: M)) (nn : ∀ p ∈ M, ∀ q ∈ pre, p.1 ≠ q.1) (G : Gnd c (Kn h₀ [])) (Iv : Inv w c bz0 Bd M σ) (hB : Bd + cost ≤ 100000) (hpre : Pre σ) (hpos : pos' = pos)
    (h : ∀ r new σ' h' tk', Fr h₀ L h' m → News h₀ L h' (pre ++ new) → (∀ p ∈ new, ∀ q ∈ pre, p.1 ≠ q.1) → Ext M new → Inv w c bz0 (Bd + cost) new σ' → σ.Le σ' → Post σ σ' → Res (Mem new) r → Q r ⟨h', s.gens, s.drawn, tk', s.os⟩) :
    wpAny (model PR w) (ktrTop dp un gd cn ⟨.function, sn, sg, sc, sm⟩ L a ccd cl outer) (call (.ref f) [.ref (c.ad e), c.text, .int pos' tp, .ref c.cache, .ref c.err]) Q E s := by
  refine hg.use B F X T hd hu N hpos ⟨M, pre, σ, Bd, ?_, nn, G.more, Iv, hB, hpre, fun r new σ' h' tk' F' N' dj X' I' le' po' R' => h r new σ' h' tk' F' (News.sub N' ?_) dj X' I' le' po' R'⟩
  · intro p hp
    rcases List.mem_append.mp hp with hp | hp
    · exact List.mem_append_right _ (.tail _ hp)
    · exact List.mem_append_left _ hp
  · intro p hp
    rcases List.mem_append.mp hp with hp | hp
    · exact List.mem_append_right _ hp
    · exact List.mem_append_left _ hp
theorem two_of {M : List (Addr × Obj)} {a b : Addr × Obj} (h1 : ∀ p ∈ M, p.1 ≠ a.1) (h2 : ∀ p ∈ M, p.1 ≠ b.1) : ∀ p ∈ M, ∀ q ∈ [a, b], p.1 ≠ q.1 := by
  intro p hp q hq
  rcases List.mem_cons.mp hq with rfl | hq
  · exact h1 p hp
  · rcases List.mem_cons.mp hq with rfl | hq
    · exact h2 p hp
    · cases hq
theorem of_two {M : List (Addr × Obj)} {a b : Addr × Obj} (h : ∀ p ∈ M, ∀ q ∈ [a, b], p.1 ≠ q.1) : (∀ p ∈ M, p.1 ≠ a.1) ∧ ∀ p ∈ M, p.1 ≠ b.1 := ⟨fun p hp => h p hp _ (.head _), fun p hp => h p hp _ (.tail _ (.head _))⟩
theorem dup2 {h₀ h : Heap} {L : Addr} {a b x y : Addr × Obj} {M : List (Addr × Obj)} (N : News h₀ L h ([a, b] ++ M)) (hx : x ∈ M) (hy : y ∈ M) : News h₀ L h (a :: b :: x :: y :: M) := News.sub N (by
  simp only [List.forall_mem_cons]
  exact ⟨.head _, .tail _ (.head _), .tail _ (.tail _ hx), .tail _ (.tail _ hy), fun p hp => .tail _ (.tail _ hp)⟩)
theorem dup1 {h₀ h : Heap} {L : Addr} {a b x : Addr × Obj} {M : List (Addr × Obj)} (N : News h₀ L h (a :: b :: M)) (hx : x ∈ M) : News h₀ L h ([a, b] ++ x :: M) := News.sub N (by
  show ∀ p ∈ a :: b :: x :: M, _
  simp only [List.forall_mem_cons]
  exact ⟨.head _, .tail _ (.head _), .tail _ (.tail _ hx), fun p hp => .tail _ (.tail _ hp)⟩)
theorem drop34 {a b x y : Addr × Obj} {r : List (Addr × Obj)} : ∀ p ∈ a :: b :: r, p ∈ a :: b :: x :: y :: r := by
  simp only [List.forall_mem_cons]
  exact ⟨.head _, .tail _ (.head _), fun p hp => .tail _ (.tail _ (.tail _ (.tail _ hp)))⟩
theorem drop3 {a b x : Addr × Obj} {r : List (Addr × Obj)} : ∀ p ∈ a :: b :: r, p ∈ a :: b :: x :: r := by
  simp only [List.forall_mem_cons]
  exact ⟨.head _, .tail _ (.head _), fun p hp => .tail _ (.tail _ (.tail _ hp))⟩
theorem Inv.dde {w : World} {c : Ctx} {bz : Ex → Int → Prop} {Bd : Nat} {M : List (Addr × Obj)} {σ : MSt} (I : Inv w c bz Bd M σ) (e : Ex) : ∃ es n, (c.dd e, dictOf es n) ∈ M ∧ getL (Str.ofString "match_core") es = some none := by
  cases q : σ.ask e with
  | none =>
    by_cases z : c.old e = []
    · exact ⟨[], 0, I.dict0 e q z, rfl⟩
    · obtain ⟨_, _, _, x⟩ := I.dict1 e q z; exact ⟨_, _, x, by with_unfolding_all rfl⟩
  | some kr =>
    obtain ⟨_, _, _, _, _, _, x, _⟩ := I.dict2 e kr.1 kr.2 q; exact ⟨_, _, x, by with_unfolding_all rfl⟩
theorem snode_mk {kn : Addr → Obj → Prop} {c : Ctx} {k x : Nat} {nd dn lc a b z : Addr} {od : Obj} {ep : Nat} {tS tE : Tok} {e : Int} (hX : (reach c.p c.q c.r (c.n - k - c.p)).1 = x)
    (h1 : kn nd (nodeObj dn lc (c.ad .S) c.text (.int (k : Int) tS) (.int e tE))) (he : e = (k : Int) + c.p + x + c.q) (h2 : kn lc (listOf #[.ref a, .ref b, .ref z] ep)) (h3 : kn dn od) (L1 : LitNode kn c .P a k (k + c.p))
    (R2 : RNode kn c b ((k + c.p : Nat) : Int) (((k + c.p : Nat) : Int) + x) (reach c.p c.q c.r (c.n - k - c.p)).2) (L3 : LitNode kn c .Q z ((k + c.p + x : Nat) : Int) (((k + c.p + x : Nat) : Int) + (c.len .Q : Int))) : SNode kn c k nd := by
  subst hX he
  refine ⟨lc, dn, a, b, z, od, ep, tS, tE, h1, h2, h3, L1, ?_, ?_⟩
  · rw [← Int.natCast_add]; exact R2
  · rw [← Int.natCast_add, ← Int.natCast_add]; exact L3
theorem ext3_of {h₀ h : Heap} {L : Addr} {a b d : Addr × Obj} {M : List (Addr × Obj)} (_ : News h₀ L h (a :: b :: d :: M)) : Ext M (a :: b :: d :: M) := Ext.of_sub fun _ hp => .tail _ (.tail _ (.tail _ hp))
theorem inv3_of {w : World} {c : Ctx} {bz : Ex → Int → Prop} {Bd : Nat} {σ : MSt} {h₀ h : Heap} {L : Addr} {a b d : Addr × Obj} {M : List (Addr × Obj)} (_ : News h₀ L h (a :: b :: d :: M)) (I : Inv w c bz Bd M σ) : Inv w c bz Bd (a :: b :: d :: M) σ := I.congr fun _ hp => .tail _ (.tail _ (.tail _ hp))
theorem sok_mk {c : Ctx} {k x : Nat} (hX : (reach c.p c.q c.r (c.n - k - c.p)).1 = x) (hkp : k + c.p ≤ c.n) (hx : 0 < x) (hxl : x ≤ c.n - k - c.p) (h : ((k + c.p + x : Nat) : Int) + (c.len .Q : Int) ≤ (c.n : Int)) : SOk c k := by
  subst hX
  have : c.len .Q = c.q := rfl
  exact ⟨by omega, hx, by omega⟩
theorem cost_S {Bd n k p : Nat} (h : k + p ≤ n) (hp : 1 ≤ p) : Bd + 2 + (10 * (n - (k + p)) + 10) + 2 ≤ Bd + (10 * (n - k) + 4) := by omega
theorem end_S {c : Ctx} {k x : Nat} : (k : Int) + ((k : Int) + (c.len .P : Int) - k) + (((k + c.p : Nat) : Int) + (x : Int) - ((k + c.p : Nat) : Int)) + (((k + c.p + x : Nat) : Int) + (c.len .Q : Int) - ((k + c.p + x : Nat) : Int)) = (k : Int) + c.p + x + c.q := by
  have : c.len .Q = c.q := rfl
  have : c.len .P = c.p := rfl
  omega
theorem ext6_of {h₀ h : Heap} {L : Addr} {a b d e f g : Addr × Obj} {M : List (Addr × Obj)} (_ : News h₀ L h (a :: b :: d :: e :: f :: g :: M)) : Ext M (a :: b :: d :: e :: f :: g :: M) := Ext.of_sub fun _ hp => .tail _ (.tail _ (.tail _ (.tail _ (.tail _ (.tail _ hp)))))
theorem inv6_of {w : World} {c : Ctx} {bz : Ex → Int → Prop} {Bd : Nat} {σ : MSt} {h₀ h : Heap} {L : Addr} {a b d e f g : Addr × Obj} {M : List (Addr × Obj)} (_ : News h₀ L h (a :: b :: d :: e :: f :: g :: M)) (I : Inv w c bz Bd M σ) : Inv w c bz Bd (a :: b :: d :: e :: f :: g :: M) σ := I.congr fun _ hp => .tail _ (.tail _ (.tail _ (.tail _ (.tail _ (.tail _ hp)))))
theorem one_of {M : List (Addr × Obj)} {a : Addr × Obj} (h1 : ∀ p ∈ M, p.1 ≠ a.1) : ∀ p ∈ M, ∀ q ∈ [a], p.1 ≠ q.1 := by
  intro p hp q hq
  rcases List.mem_cons.mp hq with rfl | hq
  · exact h1 p hp
  · cases hq
theorem of_one {M : List (Addr × Obj)} {a : Addr × Obj} (h : ∀ p ∈ M, ∀ q ∈ [a], p.1 ≠ q.1) : ∀ p ∈ M, p.1 ≠ a.1 := fun p hp => h p hp _ (.head _)
theorem dup2o {h₀ h : Heap} {L : Addr} {a x y : Addr × Obj} {M : List (Addr × Obj)} (N : News h₀ L h ([a] ++ M)) (hx : x ∈ M) (hy : y ∈ M) : News h₀ L h (a :: x :: y :: M) := News.sub N (by
  simp only [List.forall_mem_cons]
  exact ⟨.head _, .tail _ hx, .tail _ hy, fun p hp => .tail _ hp⟩)
theorem dup1o {h₀ h : Heap} {L : Addr} {a x : Addr × Obj} {M : List (Addr × Obj)} (N : News h₀ L h (a :: M)) (hx : x ∈ M) : News h₀ L h ([a] ++ x :: M) := News.sub N (by
  show ∀ p ∈ a :: x :: M, _
  simp only [List.forall_mem_cons]
  exact ⟨.head _, .tail _ hx, fun p hp => .tail _ hp⟩)
theorem drop1o {a x : Addr × Obj} {r : List (Addr × Obj)} : ∀ p ∈ a :: r, p ∈ a :: x :: r := by
  simp only [List.forall_mem_cons]
  exact ⟨.head _, fun p hp => .tail _ (.tail _ hp)⟩
/-- a node of the rule over a sequence's -/
theorem rnode_step {kn : Addr → Obj → Prop} {c : Ctx} {k : Nat} {nd dn lc y : Addr} {od : Obj} {ep : Nat} {tS tE : Tok} {e : Int} (Fi : c.Fine) (ok : SOk c k)
    (h1 : kn nd (nodeObj dn lc (c.ad .R) c.text (.int (k : Int) tS) (.int e tE))) (he : e = (k : Int) + c.p + (reach c.p c.q c.r (c.n - k - c.p)).1 + c.q) (h2 : kn lc (listOf #[.ref y] ep)) (h3 : kn dn od) (sn : SNode kn c k y) :
    (0 < (reach c.p c.q c.r (c.n - k)).1) ∧ RNode kn c nd k (k + (reach c.p c.q c.r (c.n - k)).1) (reach c.p c.q c.r (c.n - k)).2 := by
  have hr : reach c.p c.q c.r (c.n - k) = (c.p + (reach c.p c.q c.r (c.n - k - c.p)).1 + c.q, (reach c.p c.q c.r (c.n - k - c.p)).2 + 1) := by
    rw [reach_eq, if_pos ⟨Fi.p0, ok.1⟩, if_pos ⟨ok.2.1, ok.2.2⟩]
  obtain ⟨lc', dn', a, b, z, od', ep', tS', tE', s1, s2, s3, s4, s5, s6⟩ := sn
  rw [hr]
  have := Fi.p0
  refine ⟨by dsimp only; omega, ?_⟩
  have e1 : (k : Int) + ((c.p + (reach c.p c.q c.r (c.n - k - c.p)).1 + c.q : Nat) : Int) = (k : Int) + c.p + (reach c.p c.q c.r (c.n - k - c.p)).1 + c.q := by omega
  dsimp only
  rw [e1]
  subst he
  exact .step h1 h2 h3 s1 s2 s3 s4 s5 s6 rfl rfl
theorem rnode_base {kn : Addr → Obj → Prop} {c : Ctx} {k : Nat} {nd dn lc y : Addr} {od : Obj} {ep : Nat} {tS tE : Tok} {e : Int} (Fi : c.Fine) (no : ¬ SOk c k) (hk : k ≤ c.n) (hr : (k : Int) + (c.len .T : Int) ≤ (c.n : Int))
    (h1 : kn nd (nodeObj dn lc (c.ad .R) c.text (.int (k : Int) tS) (.int e tE))) (he : e = (k : Int) + (c.len .T : Int)) (h2 : kn lc (listOf #[.ref y] ep)) (h3 : kn dn od) (sn : LitNode kn c .T y k (k + (c.len .T : Int))) :
    (0 < (reach c.p c.q c.r (c.n - k)).1) ∧ RNode kn c nd k (k + (reach c.p c.q c.r (c.n - k)).1) (reach c.p c.q c.r (c.n - k)).2 := by
  have hT : c.len .T = c.r := rfl
  have hle : c.r ≤ c.n - k := by omega
  have e0 : reach c.p c.q c.r (c.n - k) = (c.r, 1) := by
    rw [reach_eq]
    by_cases h : 1 ≤ c.p ∧ c.p ≤ c.n - k
    · rw [if_pos h, if_neg (fun z => no ⟨h.2, z.1, z.2⟩), if_pos hle]
    · rw [if_neg h, if_pos hle]
  rw [e0]
  refine ⟨Fi.r0, ?_⟩
  subst he
  exact .base h1 h2 h3 sn rfl
theorem rnone {c : Ctx} {k : Nat} (no : ¬ SOk c k) (hk : k ≤ c.n) (hr : ¬ ((k : Int) + (c.len .T : Int) ≤ (c.n : Int))) : (reach c.p c.q c.r (c.n - k)).1 = 0 := by
  have hT : c.len .T = c.r := rfl
  have hle : ¬ c.r ≤ c.n - k := by omega
  rw [reach_eq]
  by_cases h : 1 ≤ c.p ∧ c.p ≤ c.n - k
  · rw [if_pos h, if_neg (fun z => no ⟨h.2, z.1, z.2⟩), if_neg hle]
  · rw [if_neg h, if_neg hle]
theorem cost_R {Bd x : Nat} : Bd + (10 * x + 6) ≤ Bd + (10 * x + 8) := by omega
theorem cost_R2 {Bd x : Nat} : Bd + (10 * x + 6) + 2 ≤ Bd + (10 * x + 8) := by omega
end Mine
end
section
open PySem PySem.W PyProof.Rows PySem.Calls PySem.Spec
set_option Elab.async false
set_option maxRecDepth 100000
set_option maxHeartbeats 8000000
namespace Mine
theorem prime_node : (fun (_ : OpenLaw) (_ : Params → Frag) => True) PySem.Challenge.rw_vj0018_01 hd.heap_39 := by
  w_top off
  k_fill
  trivial
local macro_rules | `(tactic| k_room) => `(tactic| first
  | ((try simp only [depth_mark, depth_under_make, depth_under_kw, depth_in1, depth_deeper, depth_caller]); decide)
  | ((try simp only [depth_mark, depth_under_make, depth_under_kw, depth_in1, depth_deeper, depth_caller]); (try dsimp only [ktrTop]); (simp only [recursionLimit] at *); omega))
local macro_rules | `(tactic| k_units) => `(tactic| first
  | exact Nat.le_of_ble_eq_true rfl
  | (have hcL9 := cLine_is; (try simp only [units_in1, units_deeper, Around.mark_units, units_caller] at *); (try dsimp only [ktrTop] at *); omega))
local macro_rules | `(tactic| walk_at "call ref") => `(tactic| (k_here; ks_any; k_dflt (
   (refine' call_cls ?k1 ?k2 ?k3 ?k4 ?k5 ?k6 ?_; (case k1 => k_asm); (case k2 => k_asm); (case k3 => k_asm); (case k4 => k_is); (case k5 => k_is); (case k6 => k_is); intro x' d' h' F' N' l1 l2; (try k_lt l1); (try k_lt2 l2);
    (refine' ks_code_super ?k1 ?k2 ?k3 ?k4 ?k5 ?kA ?kF ?kK ?k6 ?k7 ?k8 ?k9 ?kB ?_ ?c1 ?c2 ?c3 ?c4; (case kA => exact rfl); (case kF => exact rfl); (case kK => exact rfl); (case k1 => k_asm); (case k2 => k_asm); (case k3 => k_asm); (case k4 => k_asm); (case k5 => k_asm); (case k6 => k_is); (case k7 => k_is); (case k8 => k_room); (case k9 => exact binds_K (by k_in) rfl (by k_is) rfl rfl rfl); (case kB => exact locs rfl); (case c1 => decide); (case c2 => exact rfl); (case c3 => exact rfl); (case c4 => exact rfl); intro g' L' h' FG' F' N' B' X' T' l1; (try k_lt l1); (try dsimp only); (try k_lift B'))))))
local macro_rules | `(tactic| k_inst) => `(tactic| first
  | (refine' InstAt.of_news ?N ?h1 ?h2; (case N => k_asm); (case h1 => k_mem); (case h2 => k_mem))
  | (refine' instB ?F ?h1 ?N ?h2; (case F => k_asm); (case h1 => assumption); (case N => k_asm); (case h2 => k_mem))
  | (refine' instBB ?F ?h1 ?h2; (case F => k_asm); (case h1 => assumption); (case h2 => assumption)))
local macro_rules | `(tactic| walk_at "call builtin:getattr") => `(tactic| (k_here; (with_reducible show wpAny _ _ (call (Value.builtin _) [Value.ref _, Value.str _ _, _]) _ _ _); k_dflt (first
  | (refine' ga3_own ?F ?X ?I ?g ?hh ?ha ?hn ?hl ?hv ?hm ?nm ?_; (case I => k_inst); (case F => k_asm); (case X => k_asm); (case g => k_is); (case hh => k_is); (case ha => k_is); (case hn => k_is); (case hl => k_get); (case hv => k_handed); (case hm => k_is); (case nm => decide); k_whole)
  | (refine' ga3_no ?F ?X ?N ?I ?hA ?g ?hh ?ha ?hl ?hm ?nm ?hc ?hcn ?cp ?ms ?_; (case I => k_inst); (case F => k_asm); (case X => k_asm); (case N => k_asm); (case hA => exact rfl); (case g => k_is); (case hh => k_is); (case ha => k_is); (case hl => k_get); (case hm => k_is); (case nm => decide); (case hc => k_is); (case hcn => decide +kernel); (case cp => decide +kernel); (case ms => decide +kernel); k_whole; intro h' tk' F' N'; (try k_sweep)))))
local macro_rules | `(tactic| walk_at "call builtin:len") => `(tactic| (k_here; (with_reducible show wpAny _ _ (call (Value.builtin "len") [Value.ref _]) _ _ _); k_dflt (refine' kda_len (knd := PySem.intKind _ _) ?N ?m ?d ?lo ?fit ?_; (case N => k_asm); (case m => k_mem); (case d => assumption); (case lo => assumption); (case fit => first | omega | (simp only [List.length_append, List.length_cons, List.length_nil]; omega)); k_whole)))
local macro_rules | `(tactic| walk_at "setItem ref int") => `(tactic| (k_here; k_dflt (refine' kda_set (knd := PySem.intKind _ _) ?F ?N ?U ?d (intKind_is _ _ _ _) ?z ?_; (case F => k_asm); (case N => k_asm); (case U => k_updF); (case d => assumption); (case z => (rw [sizeLine_eq]; first | omega | (simp only [List.length_append, List.length_cons, List.length_nil]; omega))); k_whole); intro h' o' F' N' hd'; (try dsimp only at N'); (try rw [stored_new (by assumption)] at hd'); (try k_sweep)))
local macro_rules | `(tactic| walk_at "compareOp In int ref") => `(tactic| (k_here; k_dflt (first
  | (refine' mp_in0 (knd := PySem.intKind _ _) ?N ?m ?d ?lo (intKind_is _ _ _ _) ?hl ?_; (case N => k_asm); (case m => k_mem); (case d => assumption); (case lo => assumption); (case hl => assumption); k_whole)
  | (refine' mp_in1 (knd := PySem.intKind _ _) ?N ?m ?d ?lo (intKind_is _ _ _ _) ?hl ?_; (case N => k_asm); (case m => k_mem); (case d => assumption); (case lo => assumption); (case hl => assumption); k_whole))))
local macro_rules | `(tactic| walk_at "subscriptTail") => `(tactic| (k_here; (with_reducible show wpAny _ _ (subscriptTail _ _ (Value.ref _) (Value.int _ _)) _ _ _); k_dflt (refine' kda_item (knd := PySem.intKind _ _) ?N ?m ?d (intKind_is _ _ _ _) ?hl ?_ ?hs ?hg; (case N => k_asm); (case m => k_mem); (case d => assumption); (case hl => assumption); (case hs => with_unfolding_all rfl); (case hg => (intro _; with_unfolding_all rfl)); k_whole)))
local macro_rules | `(tactic| walk_at "getMethod ref") => `(tactic| (k_here; (with_reducible show wpAny _ _ (getMethod (Value.ref _) (Str.ofString "get") _) _ _ _); k_dflt (refine' kdg_method (knd := PySem.intKind _ _) ?N ?m ?d ?_; (case N => k_asm); (case m => k_mem); (case d => assumption); k_whole)))
local macro_rules | `(tactic| walk_at "call builtin:dict.get") => `(tactic| (k_here; k_dflt (refine' kdg_get1 (knd := PySem.intKind _ _) ?N ?m ?d ?lo (intKind_is _ _ _ _) _ ?hl ?_; (case N => k_asm); (case m => k_mem); (case d => assumption); (case lo => assumption); (case hl => assumption); k_whole); (try dsimp only [Option.getD])))
local macro_rules | `(tactic| walk_at "getAttr ref") => `(tactic| (k_here; k_dflt (refine' exc_getK ?F ?X ?I ?ga ?gt ?hb ?hh ?ha ?hn ?hl ?hv ?_; (case I => (first | (refine' instE ?iN ?i1 ?i2; (case iN => k_asm); (case i1 => k_mem); (case i2 => k_mem)) | (refine' instEB ?iF ?i1 ?iN ?i2; (case iF => k_asm); (case i1 => assumption); (case iN => k_asm); (case i2 => k_mem)))); (case F => k_asm); (case X => k_asm); (case ga => k_is); (case gt => k_is); (case hb => k_is); (case hh => k_is); (case ha => k_is); (case hn => k_is); (case hl => k_get); (case hv => k_handed); k_whole)))
local macro_rules | `(tactic| walk_at "setAttr ref") => `(tactic| (k_here; k_dflt (first
  | (refine' exc_setK ?F ?X ?N ?I ?hd ?hs ?hc ?hp ?hdd ?ho ?ht ?hl ?e ?U ?hz ?_; (case I => (first | (refine' instE ?iN ?i1 ?i2; (case iN => k_asm); (case i1 => k_mem); (case i2 => k_mem)) | (refine' instEB ?iF ?i1 ?iN ?i2; (case iF => k_asm); (case i1 => assumption); (case iN => k_asm); (case i2 => k_mem)))); (case F => k_asm); (case X => k_asm); (case N => k_asm); (case hd => exact rfl); (case hs => k_is); (case hc => k_is); (case hp => first | exact pass87 _ | exact pass125 _); (case hdd => exact rfl); (case ho => k_is); (case ht => k_is); (case hl => k_get); (case e => k_put); (case U => k_upd); (case hz => exact Nat.le_of_ble_eq_true rfl); k_whole; intro h' F' N'; (try k_sweep))
  | (refine' exc_set0K ?F ?X ?N ?hs ?hc ?hp ?hdd ?ho ?ht ?U ?_; (case F => k_asm); (case X => k_asm); (case N => k_asm); (case U => (intro d'; k_upd)); (case hs => k_is); (case hc => k_is); (case hp => first | exact pass87 _ | exact pass125 _); (case hdd => exact rfl); (case ho => k_is); (case ht => k_is); k_whole; intro d' h' F' N' l1; (try k_lt l1); (try k_sweep)))))
local macro_rules | `(tactic| walk_at "call ref") => `(tactic| (k_here; k_dflt (refine' exc_callK ?F ?X ?N ?hC ?a ?b ?c ?d ?e ?f ?g ?hr ?_; (case F => k_asm); (case X => k_asm); (case N => k_asm); (case hC => k_is); (case a => decide +kernel); (case b => decide +kernel); (case c => decide +kernel); (case d => k_is); (case e => k_is); (case f => k_is); (case g => k_is); (case hr => exact Nat.le_of_ble_eq_true rfl); k_whole; intro x' t' h' F' N' l1 l2; (try k_lt l1); (try k_lt2 l2); (try k_sweep); k_enter)))
local macro_rules | `(tactic| walk_at "call builtin:getattr") => `(tactic| (k_here; (with_reducible show wpAny _ _ (call (Value.builtin _) [Value.none, Value.str _ _, _]) _ _ _); k_dflt (refine' ga3_noneK ?F ?N ?hA ?nm ?hm ?hz ?_; (case F => k_asm); (case N => k_asm); (case hA => exact rfl); (case nm => decide); (case hm => exact am_miss_of_fast (by kernel_rfl)); (case hz => (rw [sizeLine_eq]; decide)); k_whole; intro h' tk' F' N'; (try k_sweep))))
local macro_rules | `(tactic| walk_at "call builtin:getattr") => `(tactic| (k_here; (with_reducible show wpAny _ _ (call (Value.builtin _) [Value.ref _, Value.str (Str.ofString "name") _, _]) _ _ _); k_dflt (refine' ga_nameK ?F ?X ?N ?e ?d ?_; (case F => k_asm); (case X => k_asm); (case N => k_asm); (case e => assumption); (case d => (first | assumption | (repeat (first | assumption | refine List.Mem.tail _ ?_)))); k_whole; intro nm' tk')))
local macro_rules | `(tactic| walk_at "setAttr ref") => `(tactic| (k_here; (with_reducible show wpAny _ _ (setAttr (Value.ref _) (Str.ofString "expr") _) _ _ _); k_dflt (refine' er_set_expr ?F ?X ?N ?I ?hd ?U ?_; (case I => (first | (refine' instE ?iN ?i1 ?i2; (case iN => k_asm); (case i1 => k_mem); (case i2 => k_mem)) | (refine' instEB ?iF ?i1 ?iN ?i2; (case iF => k_asm); (case i1 => assumption); (case iN => k_asm); (case i2 => k_mem)))); (case F => k_asm); (case X => k_asm); (case N => k_asm); (case hd => exact rfl); (case U => k_upd); k_whole; intro h' F' N'; (try k_sweep))))
local macro_rules | `(tactic| walk_at "setAttr ref") => `(tactic| (k_here; (with_reducible show wpAny _ _ (setAttr (Value.ref _) (Str.ofString "pos") _) _ _ _); k_dflt (refine' er_set_pos ?F ?X ?N ?I ?hd ?U ?_; (case I => (first | (refine' instE ?iN ?i1 ?i2; (case iN => k_asm); (case i1 => k_mem); (case i2 => k_mem)) | (refine' instEB ?iF ?i1 ?iN ?i2; (case iF => k_asm); (case i1 => assumption); (case iN => k_asm); (case i2 => k_mem)))); (case F => k_asm); (case X => k_asm); (case N => k_asm); (case hd => exact rfl); (case U => k_upd); k_whole; intro h' F' N'; (try k_sweep))))
local macro_rules | `(tactic| k_all) => `(tactic| first | (refine ?_; assumption) | exact allLt_at (by assumption) | exact allLt_lt (by assumption) (ltN (by (try dsimp only); omega)))
local macro_rules | `(tactic| k_lt $h:ident) => `(tactic| (replace $h := allLt_of $h; (simp only [AllLt, and_true] at $h:ident); (repeat (refine And.elim ?_ $h; clear $h; intro _ $h))))
local macro_rules | `(tactic| walk_at "truthy ref") => `(tactic| (k_here; (with_reducible show wpAny _ _ (truthy (Value.ref _)) _ _ _); k_dflt (refine' truthy_its ?N ?m ?a ?b ?_; (case N => k_asm); (case m => k_mem); (case a => assumption); (case b => assumption); k_whole)))
theorem node_make {w : World} {dp un : Nat} {gd : Option (List Code)} {cn : Str} {sn : List (Str × NameKind)} {sg sc : Bool} {sm : List (Str × Const)} {a : Addr} {ccd : Value} {cl : List (Str × Addr)} {outer : List Env} {A₀ : Around} {base h₀ : Heap} {L : Addr} {m : Str → Option Value} {s : Shared}
  {p : Program} {loose : List Str} {mean : ExcName → Option Value} {mg mb : Str → Option Value} {Q E : Value → Shared → Prop}
  (B : Below A₀ base outer h₀) (F : Fr h₀ L s.heap m) (X : (hd.heap_39 w.params).In h₀) (T : Top p loose mean mg mb h₀)
  (hd : dp + 20 < recursionLimit) (hu : un + 160 < cLine)
  {ex lst : Addr} {text : Value} {st en : Int} {tS tE : Tok} {its : Array Value} {ep : Nat} {M : List (Addr × Obj)} (hne : its.isEmpty = false) (hz : its.size ≤ 100)
  (N : News h₀ L s.heap ((lst, listOf its ep) :: M))
  (ret : ∀ nd dn h' tk', Fr h₀ L h' m → News h₀ L h' ((nd, nodeObj dn lst ex text (.int st tS) (.int en tE)) :: (dn, dictOf [] 0) :: (lst, listOf its ep) :: M) → Q (.ref nd) ⟨h', s.gens, s.drawn, tk', s.os⟩)
  : wpAny (model PySem.Challenge.rw_vj0018_01.row.prog w) (ktrTop dp un gd cn ⟨.function, sn, sg, sc, sm⟩ L a ccd cl outer) (call (.ref 243) [.ref ex, text, .int st tS, .int en tE, .ref lst]) Q E s := by
  k_steps
  rename News h₀ _ _ _ => N9
  exact ret _ _ _ _ (by assumption) N9
theorem node_make_kw {w : World} {dp un : Nat} {gd : Option (List Code)} {cn : Str} {sn : List (Str × NameKind)} {sg sc : Bool} {sm : List (Str × Const)} {a : Addr} {ccd : Value} {cl : List (Str × Addr)} {outer : List Env} {A₀ : Around} {base h₀ : Heap} {L : Addr} {m : Str → Option Value} {s : Shared}
  {p : Program} {loose : List Str} {mean : ExcName → Option Value} {mg mb : Str → Option Value} {Q E : Value → Shared → Prop}
  (B : Below A₀ base outer h₀) (F : Fr h₀ L s.heap m) (X : (hd.heap_39 w.params).In h₀) (T : Top p loose mean mg mb h₀)
  (hd : dp + 20 < recursionLimit) (hu : un + 160 < cLine)
  {ex lst : Addr} {text : Value} {st en : Int} {tS tE : Tok} {its : Array Value} {ep : Nat} {M : List (Addr × Obj)} (hne : its.isEmpty = false) (hz : its.size ≤ 100)
  (N : News h₀ L s.heap ((lst, listOf its ep) :: M))
  (ret : ∀ nd dn h' tk', Fr h₀ L h' m → News h₀ L h' ((nd, nodeObj dn lst ex text (.int st tS) (.int en tE)) :: (dn, dictOf [] 0) :: (lst, listOf its ep) :: M) → Q (.ref nd) ⟨h', s.gens, s.drawn, tk', s.os⟩)
  : wpAny (model PySem.Challenge.rw_vj0018_01.row.prog w) (ktrTop dp un gd cn ⟨.function, sn, sg, sc, sm⟩ L a ccd cl outer) (call (.ref 243) [.ref ex, text, .int st tS, .int en tE] [(Str.ofString "children", .ref lst)]) Q E s := by
  k_steps
  rename News h₀ _ _ _ => N9
  exact ret _ _ _ _ (by assumption) N9
end Mine
end
section
open PySem PySem.W PyProof.Rows PySem.Calls PySem.Spec
set_option Elab.async false
set_option maxRecDepth 100000
set_option maxHeartbeats 8000000
namespace Mine
theorem prime_us : (fun (_ : OpenLaw) (_ : Params → Frag) => True) PySem.Challenge.rw_vj0018_01 hd.heap_39 := by
  w_top off
  k_fill
  trivial
local macro_rules | `(tactic| k_room) => `(tactic| first
  | ((try simp only [depth_mark, depth_under_make, depth_under_kw, depth_in1, depth_deeper, depth_caller]); decide)
  | ((try simp only [depth_mark, depth_under_make, depth_under_kw, depth_in1, depth_deeper, depth_caller]); (try dsimp only [ktrTop]); (simp only [recursionLimit] at *); omega))
local macro_rules | `(tactic| k_units) => `(tactic| first
  | exact Nat.le_of_ble_eq_true rfl
  | (have hcL9 := cLine_is; (try simp only [units_in1, units_deeper, Around.mark_units, units_caller] at *); (try dsimp only [ktrTop] at *); omega))
local macro_rules | `(tactic| walk_at "call ref") => `(tactic| (k_here; ks_any; k_dflt (
   (refine' call_cls ?k1 ?k2 ?k3 ?k4 ?k5 ?k6 ?_; (case k1 => k_asm); (case k2 => k_asm); (case k3 => k_asm); (case k4 => k_is); (case k5 => k_is); (case k6 => k_is); intro x' d' h' F' N' l1 l2; (try k_lt l1); (try k_lt2 l2);
    (refine' ks_code_super ?k1 ?k2 ?k3 ?k4 ?k5 ?kA ?kF ?kK ?k6 ?k7 ?k8 ?k9 ?kB ?_ ?c1 ?c2 ?c3 ?c4; (case kA => exact rfl); (case kF => exact rfl); (case kK => exact rfl); (case k1 => k_asm); (case k2 => k_asm); (case k3 => k_asm); (case k4 => k_asm); (case k5 => k_asm); (case k6 => k_is); (case k7 => k_is); (case k8 => k_room); (case k9 => exact binds_K (by k_in) rfl (by k_is) rfl rfl rfl); (case kB => exact locs rfl); (case c1 => decide); (case c2 => exact rfl); (case c3 => exact rfl); (case c4 => exact rfl); intro g' L' h' FG' F' N' B' X' T' l1; (try k_lt l1); (try dsimp only); (try k_lift B'))))))
local macro_rules | `(tactic| k_inst) => `(tactic| first
  | (refine' InstAt.of_news ?N ?h1 ?h2; (case N => k_asm); (case h1 => k_mem); (case h2 => k_mem))
  | (refine' instB ?F ?h1 ?N ?h2; (case F => k_asm); (case h1 => assumption); (case N => k_asm); (case h2 => k_mem))
  | (refine' instBB ?F ?h1 ?h2; (case F => k_asm); (case h1 => assumption); (case h2 => assumption)))
local macro_rules | `(tactic| walk_at "call builtin:getattr") => `(tactic| (k_here; (with_reducible show wpAny _ _ (call (Value.builtin _) [Value.ref _, Value.str _ _, _]) _ _ _); k_dflt (first
  | (refine' ga3_own ?F ?X ?I ?g ?hh ?ha ?hn ?hl ?hv ?hm ?nm ?_; (case I => k_inst); (case F => k_asm); (case X => k_asm); (case g => k_is); (case hh => k_is); (case ha => k_is); (case hn => k_is); (case hl => k_get); (case hv => k_handed); (case hm => k_is); (case nm => decide); k_whole)
  | (refine' ga3_no ?F ?X ?N ?I ?hA ?g ?hh ?ha ?hl ?hm ?nm ?hc ?hcn ?cp ?ms ?_; (case I => k_inst); (case F => k_asm); (case X => k_asm); (case N => k_asm); (case hA => exact rfl); (case g => k_is); (case hh => k_is); (case ha => k_is); (case hl => k_get); (case hm => k_is); (case nm => decide); (case hc => k_is); (case hcn => decide +kernel); (case cp => decide +kernel); (case ms => decide +kernel); k_whole; intro h' tk' F' N'; (try k_sweep)))))
local macro_rules | `(tactic| walk_at "call builtin:len") => `(tactic| (k_here; (with_reducible show wpAny _ _ (call (Value.builtin "len") [Value.ref _]) _ _ _); k_dflt (refine' kda_len (knd := PySem.intKind _ _) ?N ?m ?d ?lo ?fit ?_; (case N => k_asm); (case m => k_mem); (case d => assumption); (case lo => assumption); (case fit => first | omega | (simp only [List.length_append, List.length_cons, List.length_nil]; omega)); k_whole)))
local macro_rules | `(tactic| walk_at "setItem ref int") => `(tactic| (k_here; k_dflt (refine' kda_set (knd := PySem.intKind _ _) ?F ?N ?U ?d (intKind_is _ _ _ _) ?z ?_; (case F => k_asm); (case N => k_asm); (case U => k_updF); (case d => assumption); (case z => (rw [sizeLine_eq]; first | omega | (simp only [List.length_append, List.length_cons, List.length_nil]; omega))); k_whole); intro h' o' F' N' hd'; (try dsimp only at N'); (try rw [stored_new (by assumption)] at hd'); (try k_sweep)))
local macro_rules | `(tactic| walk_at "compareOp In int ref") => `(tactic| (k_here; k_dflt (first
  | (refine' mp_in0 (knd := PySem.intKind _ _) ?N ?m ?d ?lo (intKind_is _ _ _ _) ?hl ?_; (case N => k_asm); (case m => k_mem); (case d => assumption); (case lo => assumption); (case hl => assumption); k_whole)
  | (refine' mp_in1 (knd := PySem.intKind _ _) ?N ?m ?d ?lo (intKind_is _ _ _ _) ?hl ?_; (case N => k_asm); (case m => k_mem); (case d => assumption); (case lo => assumption); (case hl => assumption); k_whole))))
local macro_rules | `(tactic| walk_at "subscriptTail") => `(tactic| (k_here; (with_reducible show wpAny _ _ (subscriptTail _ _ (Value.ref _) (Value.int _ _)) _ _ _); k_dflt (refine' kda_item (knd := PySem.intKind _ _) ?N ?m ?d (intKind_is _ _ _ _) ?hl ?_ ?hs ?hg; (case N => k_asm); (case m => k_mem); (case d => assumption); (case hl => assumption); (case hs => with_unfolding_all rfl); (case hg => (intro _; with_unfolding_all rfl)); k_whole)))
local macro_rules | `(tactic| walk_at "getMethod ref") => `(tactic| (k_here; (with_reducible show wpAny _ _ (getMethod (Value.ref _) (Str.ofString "get") _) _ _ _); k_dflt (refine' kdg_method (knd := PySem.intKind _ _) ?N ?m ?d ?_; (case N => k_asm); (case m => k_mem); (case d => assumption); k_whole)))
local macro_rules | `(tactic| walk_at "call builtin:dict.get") => `(tactic| (k_here; k_dflt (refine' kdg_get1 (knd := PySem.intKind _ _) ?N ?m ?d ?lo (intKind_is _ _ _ _) _ ?hl ?_; (case N => k_asm); (case m => k_mem); (case d => assumption); (case lo => assumption); (case hl => assumption); k_whole); (try dsimp only [Option.getD])))
local macro_rules | `(tactic| walk_at "getAttr ref") => `(tactic| (k_here; k_dflt (refine' exc_getK ?F ?X ?I ?ga ?gt ?hb ?hh ?ha ?hn ?hl ?hv ?_; (case I => (first | (refine' instE ?iN ?i1 ?i2; (case iN => k_asm); (case i1 => k_mem); (case i2 => k_mem)) | (refine' instEB ?iF ?i1 ?iN ?i2; (case iF => k_asm); (case i1 => assumption); (case iN => k_asm); (case i2 => k_mem)))); (case F => k_asm); (case X => k_asm); (case ga => k_is); (case gt => k_is); (case hb => k_is); (case hh => k_is); (case ha => k_is); (case hn => k_is); (case hl => k_get); (case hv => k_handed); k_whole)))
local macro_rules | `(tactic| walk_at "setAttr ref") => `(tactic| (k_here; k_dflt (first
  | (refine' exc_setK ?F ?X ?N ?I ?hd ?hs ?hc ?hp ?hdd ?ho ?ht ?hl ?e ?U ?hz ?_; (case I => (first | (refine' instE ?iN ?i1 ?i2; (case iN => k_asm); (case i1 => k_mem); (case i2 => k_mem)) | (refine' instEB ?iF ?i1 ?iN ?i2; (case iF => k_asm); (case i1 => assumption); (case iN => k_asm); (case i2 => k_mem)))); (case F => k_asm); (case X => k_asm); (case N => k_asm); (case hd => exact rfl); (case hs => k_is); (case hc => k_is); (case hp => first | exact pass87 _ | exact pass125 _); (case hdd => exact rfl); (case ho => k_is); (case ht => k_is); (case hl => k_get); (case e => k_put); (case U => k_upd); (case hz => exact Nat.le_of_ble_eq_true rfl); k_whole; intro h' F' N'; (try k_sweep))
  | (refine' exc_set0K ?F ?X ?N ?hs ?hc ?hp ?hdd ?ho ?ht ?U ?_; (case F => k_asm); (case X => k_asm); (case N => k_asm); (case U => (intro d'; k_upd)); (case hs => k_is); (case hc => k_is); (case hp => first | exact pass87 _ | exact pass125 _); (case hdd => exact rfl); (case ho => k_is); (case ht => k_is); k_whole; intro d' h' F' N' l1; (try k_lt l1); (try k_sweep)))))
local macro_rules | `(tactic| walk_at "call ref") => `(tactic| (k_here; k_dflt (refine' exc_callK ?F ?X ?N ?hC ?a ?b ?c ?d ?e ?f ?g ?hr ?_; (case F => k_asm); (case X => k_asm); (case N => k_asm); (case hC => k_is); (case a => decide +kernel); (case b => decide +kernel); (case c => decide +kernel); (case d => k_is); (case e => k_is); (case f => k_is); (case g => k_is); (case hr => exact Nat.le_of_ble_eq_true rfl); k_whole; intro x' t' h' F' N' l1 l2; (try k_lt l1); (try k_lt2 l2); (try k_sweep); k_enter)))
local macro_rules | `(tactic| walk_at "call builtin:getattr") => `(tactic| (k_here; (with_reducible show wpAny _ _ (call (Value.builtin _) [Value.none, Value.str _ _, _]) _ _ _); k_dflt (refine' ga3_noneK ?F ?N ?hA ?nm ?hm ?hz ?_; (case F => k_asm); (case N => k_asm); (case hA => exact rfl); (case nm => decide); (case hm => exact am_miss_of_fast (by kernel_rfl)); (case hz => (rw [sizeLine_eq]; decide)); k_whole; intro h' tk' F' N'; (try k_sweep))))
local macro_rules | `(tactic| walk_at "call builtin:getattr") => `(tactic| (k_here; (with_reducible show wpAny _ _ (call (Value.builtin _) [Value.ref _, Value.str (Str.ofString "name") _, _]) _ _ _); k_dflt (refine' ga_nameK ?F ?X ?N ?e ?d ?_; (case F => k_asm); (case X => k_asm); (case N => k_asm); (case e => assumption); (case d => (first | assumption | (repeat (first | assumption | refine List.Mem.tail _ ?_)))); k_whole; intro nm' tk')))
local macro_rules | `(tactic| walk_at "setAttr ref") => `(tactic| (k_here; (with_reducible show wpAny _ _ (setAttr (Value.ref _) (Str.ofString "expr") _) _ _ _); k_dflt (refine' er_set_expr ?F ?X ?N ?I ?hd ?U ?_; (case I => (first | (refine' instE ?iN ?i1 ?i2; (case iN => k_asm); (case i1 => k_mem); (case i2 => k_mem)) | (refine' instEB ?iF ?i1 ?iN ?i2; (case iF => k_asm); (case i1 => assumption); (case iN => k_asm); (case i2 => k_mem)))); (case F => k_asm); (case X => k_asm); (case N => k_asm); (case hd => exact rfl); (case U => k_upd); k_whole; intro h' F' N'; (try k_sweep))))
local macro_rules | `(tactic| walk_at "setAttr ref") => `(tactic| (k_here; (with_reducible show wpAny _ _ (setAttr (Value.ref _) (Str.ofString "pos") _) _ _ _); k_dflt (refine' er_set_pos ?F ?X ?N ?I ?hd ?U ?_; (case I => (first | (refine' instE ?iN ?i1 ?i2; (case iN => k_asm); (case i1 => k_mem); (case i2 => k_mem)) | (refine' instEB ?iF ?i1 ?iN ?i2; (case iF => k_asm); (case i1 => assumption); (case iN => k_asm); (case i2 => k_mem)))); (case F => k_asm); (case X => k_asm); (case N => k_asm); (case hd => exact rfl); (case U => k_upd); k_whole; intro h' F' N'; (try k_sweep))))
local macro_rules | `(tactic| k_all) => `(tactic| first | (refine ?_; assumption) | exact allLt_at (by assumption) | exact allLt_lt (by assumption) (ltN (by (try dsimp only); omega)))
local macro_rules | `(tactic| k_lt $h:ident) => `(tactic| (replace $h := allLt_of $h; (simp only [AllLt, and_true] at $h:ident); (repeat (refine And.elim ?_ $h; clear $h; intro _ $h))))
local macro_rules | `(tactic| k_get) => `(tactic| (refine ?_; assumption))
local macro_rules | `(tactic| walk_at "call ref") => `(tactic| (k_here; (with_reducible show wpAny _ _ (call (Value.ref 297) _ _) _ _ _); (refine Stop.go ?_)))
local macro_rules | `(tactic| walk_at "call ref") => `(tactic| (k_here; (with_reducible show wpAny _ _ (call (Value.ref 243) _ _) _ _ _); (refine Stop.go ?_)))
local macro_rules | `(tactic| walk_at "exec For Name Attribute cons nil") => `(tactic| (k_here; (refine Stop.go ?_)))
local macro_rules | `(tactic| kun_tup) => `(tactic| exact Fr.tup (by k_asm) (by assumption))
local macro_rules | `(tactic| walk_at "compareOp Is ref ref") => `(tactic| (k_here; (with_reducible show wpAny _ _ (compareOp CmpOp.Is (Value.ref _) (Value.ref _)) _ _ _); k_dflt (refine' kto_is ?a ?b ?n ?c ?_; (case a => first | kto_obj | exact kto_N (by k_asm) (by repeat (first | assumption | refine List.Mem.tail _ ?_))); (case b => first | kto_obj | exact Fr.keep (by k_asm) _ _ (by assumption)); (case n => kto_ne); (case c => first | kto_not | assumption); k_whole)))
theorem um_seq {w : World} {c : Ctx} (Fi : c.Fine) {k : Nat} (hk : k ≤ c.n)
  (hR : ∀ k', k < k' → k' ≤ c.n → Gives w c 297 .R (k' : Int) (4 * (c.n - k') + 6) (10 * (c.n - k') + 10) bz0 (fun σ => KeysLt σ .R k' ∧ KeysLt σ .S k') (fun _ _ => True) (RVal c k')) :
  Gives w c 415 .S (k : Int) (4 * (c.n - k) + 3) (10 * (c.n - k) + 4) (bzA .S k) (fun σ => KeysLt σ .R (k + 1) ∧ KeysLt σ .S (k + 1)) (fun _ _ => True) (SVal c k) := by
  have n16 := Fi.n16
  have hp1 := Fi.p0
  refine ⟨?_⟩
  intro dp un gd cn sn sg sc sm a ccd cl outer A₀ base h₀ L m s p loose mean mg mb Q E M rest σ Bd tp B F X T hd hu N dj G I hBd pre ret
  refine wpAny_call ?_
  k_dflt (refine' code_defR (hid := M) (rest := rest) ?k1 ?k2 ?k3 ?k4 ?k5 ?kA ?kF ?kK ?k6 ?k7 ?k8 ?k9 ?kB ?dj ?_ ?c2 ?c3 ?c4 ?c5; (case kA => exact rfl); (case kF => exact rfl); (case kK => exact rfl); (case k1 => exact B); (case k2 => exact F); (case k3 => exact X); (case k4 => exact N); (case k5 => exact T); (case k6 => k_is); (case k7 => k_is); (case k8 => k_room); (case k9 => exact BindsTo.of_eq rfl); (case c5 => decide); (case kB => exact locs rfl); (case dj => exact dj); (case c2 => exact rfl); (case c3 => exact rfl); (case c4 => exact rfl); k_whole; intro g' L' h' FG' F' N' R' LT' B' X' T' st'; (try dsimp only); (try k_fold))
  have N0 := N
  have hlP : c.len .P = c.p := rfl
  have hlQ : c.len .Q = c.q := rfl
  have G' := G.at st' R'
  have hxS : g'.get? (c.ad .S) = some (seqObj (c.dd .S) c.tS (c.it .S) (.str (Str.ofString "") (c.nt .S))) := (G'.imm .S).g
  have hxP : g'.get? (c.ad .P) = some (litObj (c.dd .P) (.str (c.lit c.p) (c.lt .P)) (c.it .P) (.str (Str.ofString "") (c.nt .P))) := (G'.imm .P).g
  have hxQ : g'.get? (c.ad .Q) = some (litObj (c.dd .Q) (.str (c.lit c.q) (c.lt .Q)) (c.it .Q) (.str (Str.ofString "") (c.nt .Q))) := (G'.imm .Q).g
  have hxR : g'.get? (c.ad .R) = some (oneObj (c.dd .R) c.tR (c.it .R) (.str (Str.ofString "s") (c.nt .R))) := (G'.imm .R).g
  have htS : IsTup g' c.tS #[.ref (c.ad .P), .ref (c.ad .R), .ref (c.ad .Q)] := ⟨_, G'.tS.g, rfl, _, rfl⟩
  have I0 : Inv w c bz0 Bd M σ := I.rebz fun e hl j _ z => by rcases hl with rfl | rfl | rfl <;> cases z.1
  obtain ⟨odS, hodS⟩ := I.dd .S
  have N3 := News.sub N' (M' := (c.dd .S, odS) :: M) (List.forall_mem_cons.mpr ⟨hodS, fun _ h => h⟩)
  clear N' B F T
  k_steps
  refine Stop.mk ?_
  refine for_tup (h₀ := g') rfl ?_
  k_steps
  refine TupHere.of (vs := [.ref (c.ad .P), .ref (c.ad .R), .ref (c.ad .Q)]) (by k_asm) (by k_asm) (Fr.tup (by k_asm) htS) ?_
  intro I1 hI h tk oi F N hI2
  have hIl := ltN (hI _ (List.Mem.head _))
  dsimp only at hIl
  have hIM : ∀ p ∈ M, p.1 ≠ I1 := fun p hp => Nat.ne_of_lt (hI p (.tail _ (.tail _ hp)))
  obtain ⟨esP, nP, hodP, hgP⟩ := I.dde .P
  have N4 := dup1 (News.sub N drop3) hodP
  clear N
  k_steps
  refine Stop.mk ?_
  k_dflt (refine' Gives.use2 (pre := [_, _]) (mc_lit (e := .P) (.inl rfl) Fi hk) ?B ?F ?X ?T ?hd ?hu ?N ?nn G' I0 (by omega) trivial ?hpos ?r0)
  case B => k_asm
  case F => k_asm
  case X => k_asm
  case T => k_asm
  case N => k_asm
  case nn => exact two_of hIM (allLt_at (by assumption))
  case hd => ((try simp only [depth_mark, depth_deeper, depth_under_make, depth_under_kw, depth_in1]); (try dsimp only [ktrTop]); omega)
  case hu => ((try simp only [units_in1, units_deeper, Around.mark_units]); (try dsimp only [ktrTop]); omega)
  case hpos => omega
  intro r1 new1 σ1 h5 tk5 F5 N5 n5 X1 I1' le1 post1 R1
  rcases R1 with ⟨rfl, hno⟩ | ⟨nd1, rfl, hq1, hle1, lc1, dn1, tS1, tE1, hnd, hlc1, od1, hdn⟩
  · k_steps
    rename News h₀ _ _ _ => N9
    rename News g' _ _ _ => Ng
    have J := leave_join N0 R' (by assumption) (News.sub (M' := new1) N9 fun p hp => by repeat (first | exact hp | refine List.Mem.tail _ ?_)) (News.sub (M' := new1) Ng fun p hp => by repeat (first | exact hp | refine List.Mem.tail _ ?_))
    exact ret _ new1 σ1 _ _ (by assumption) J.1 J.2 X1 ((I1'.rebz fun _ _ _ _ z => z).le (by omega)) le1 trivial (.inl ⟨rfl, fun z => hno (by have := z.1; show (k : Int) + (c.p : Int) ≤ c.n; omega)⟩)
  have hkp : k + c.p ≤ c.n := by
    have : (k : Int) + (c.p : Int) ≤ c.n := hle1
    omega
  have L1 : LitNode (Mem new1) c .P nd1 k (k + c.p) := ⟨lc1, dn1, tS1, tE1, hnd, hlc1, od1, hdn⟩
  have hsub : c.n - (k + c.p) = c.n - k - c.p := by omega
  have N6 := dup2 N5 hnd hdn
  have hIl' := ltN (hI _ (List.Mem.head _))
  dsimp only at hIl'
  have hnl := neN ((of_two n5).2 _ hnd)
  have hdl := neN ((of_two n5).2 _ hdn)
  have hnI := neN ((of_two n5).1 _ hnd)
  have hdI := neN ((of_two n5).1 _ hdn)
  have hal := (of_two n5).2
  dsimp only at hnl hdl hnI hdI hal
  clear N5
  k_steps
  rename News g' _ _ _ => N9
  rename Fr g' _ _ _ => F9
  refine Stop.mk ?_
  refine ⟨_, _, _, _ :: new1, rfl, F9, News.sub N9 drop34, List.forall_mem_cons.mpr ⟨Nat.ne_of_lt hIl', (of_two n5).1⟩, Fr.tup F9 htS, ?_⟩
  clear N9 F9
  intro h tk oi F N hI2
  obtain ⟨es2, n2, hod2, hg2⟩ := I1'.dde .R
  have N4 := dup1 N hod2
  have pre2 : KeysLt σ1 .R ((k + c.p : Nat) : Int) ∧ KeysLt σ1 .S ((k + c.p : Nat) : Int) := ⟨fun j v h => by
    rw [post1 .R (by decide)] at h
    have := pre.1 j v h
    omega, fun j v h => by
    rw [post1 .S (by decide)] at h
    have := pre.2 j v h
    omega⟩
  clear N
  k_steps
  refine Stop.mk ?_
  k_dflt (refine' Gives.use2 (pre := [_, _]) (hR (k + c.p) (by omega) hkp) ?B2 ?F2 ?X2 ?T2 ?hd2 ?hu2 ?N2 ?nn2 G' I1' (by omega) pre2 ?hpos2 ?r02)
  case B2 => k_asm
  case F2 => k_asm
  case X2 => k_asm
  case T2 => k_asm
  case N2 => k_asm
  case nn2 => exact two_of (of_two n5).1 (of_two n5).2
  case hd2 => ((try simp only [depth_mark, depth_deeper, depth_under_make, depth_under_kw, depth_in1]); (try dsimp only [ktrTop]); omega)
  case hu2 => ((try simp only [units_in1, units_deeper, Around.mark_units]); (try dsimp only [ktrTop]); omega)
  case hpos2 => omega
  intro r2 new2 σ2 h6 tk6 F6 N5 n6 X2 I2' le2 post2 R2
  unfold RVal at R2
  rw [hsub] at R2
  rcases R2 with ⟨rfl, hno⟩ | ⟨hx0, nd2, rfl, hq2, R2⟩
  · k_steps
    rename News h₀ _ _ _ => N9
    rename News g' _ _ _ => Ng
    have J := leave_join N0 R' (by assumption) (News.sub (M' := new2) N9 fun p hp => by repeat (first | exact hp | refine List.Mem.tail _ ?_)) (News.sub (M' := new2) Ng fun p hp => by repeat (first | exact hp | refine List.Mem.tail _ ?_))
    exact ret _ new2 σ2 _ _ (by assumption) J.1 J.2 (X1.trans X2) ((I2'.rebz fun _ _ _ _ z => z).le (by omega)) (le1.trans le2) trivial (.inl ⟨rfl, fun z => by have := z.2.1; omega⟩)
  have hxl := reach_le c.p c.q c.r (c.n - k - c.p)
  obtain ⟨dn2, lc2, tS2, tE2, od2, hnd, hdn⟩ := R2.obj
  have N6 := dup2 N5 hnd hdn
  have hIl' := ltN (hI _ (List.Mem.head _))
  dsimp only at hIl'
  have hnl := neN ((of_two n6).2 _ hnd)
  have hdl := neN ((of_two n6).2 _ hdn)
  have hnI := neN ((of_two n6).1 _ hnd)
  have hdI := neN ((of_two n6).1 _ hdn)
  have hal := (of_two n6).2
  dsimp only at hnl hdl hnI hdI hal
  clear N5
  k_steps
  rename News g' _ _ _ => N9
  rename Fr g' _ _ _ => F9
  refine Stop.mk ?_
  refine ⟨_, _, _, _ :: new2, rfl, F9, News.sub N9 drop34, List.forall_mem_cons.mpr ⟨Nat.ne_of_lt hIl', (of_two n6).1⟩, Fr.tup F9 htS, ?_⟩
  clear N9 F9
  intro h tk oi F N hI2
  obtain ⟨es3, n3, hod3, hg3⟩ := I2'.dde .Q
  have N4 := dup1 N hod3
  generalize hX : (reach c.p c.q c.r (c.n - k - c.p)).1 = x at *
  clear N
  k_steps
  refine Stop.mk ?_
  k_dflt (refine' Gives.use2 (pre := [_, _]) (mc_lit (e := .Q) (.inr (.inl rfl)) Fi (k := k + c.p + x) (by omega)) ?B3 ?F3 ?X3 ?T3 ?hd3 ?hu3 ?N3 ?nn3 G' I2' (by omega) trivial ?hpos3 ?r03)
  case B3 => k_asm
  case F3 => k_asm
  case X3 => k_asm
  case T3 => k_asm
  case N3 => k_asm
  case nn3 => exact two_of (of_two n6).1 (of_two n6).2
  case hd3 => ((try simp only [depth_mark, depth_deeper, depth_under_make, depth_under_kw, depth_in1]); (try dsimp only [ktrTop]); omega)
  case hu3 => ((try simp only [units_in1, units_deeper, Around.mark_units]); (try dsimp only [ktrTop]); omega)
  case hpos3 => omega
  intro r3 new3 σ3 h7 tk7 F7 N5 n7 X3 I3' le3 post3 R3
  rcases R3 with ⟨rfl, hno⟩ | ⟨nd3, rfl, hq3, hle3, lc3, dn3, tS3, tE3, hnd, hlc3, od3, hdn⟩
  · k_steps
    rename News h₀ _ _ _ => N9
    rename News g' _ _ _ => Ng
    have J := leave_join N0 R' (by assumption) (News.sub (M' := new3) N9 fun p hp => by repeat (first | exact hp | refine List.Mem.tail _ ?_)) (News.sub (M' := new3) Ng fun p hp => by repeat (first | exact hp | refine List.Mem.tail _ ?_))
    exact ret _ new3 σ3 _ _ (by assumption) J.1 J.2 ((X1.trans X2).trans X3) ((I3'.rebz fun _ _ _ _ z => z).le (by omega)) ((le1.trans le2).trans le3) trivial (.inl ⟨rfl, fun z => hno (by have := z.2.2; omega)⟩)
  have L3 : LitNode (Mem new3) c .Q nd3 _ _ := ⟨lc3, dn3, tS3, tE3, hnd, hlc3, od3, hdn⟩
  have N6 := dup2 N5 hnd hdn
  have hIl' := ltN (hI _ (List.Mem.head _))
  dsimp only at hIl'
  have hnl := neN ((of_two n7).2 _ hnd)
  have hdl := neN ((of_two n7).2 _ hdn)
  have hnI := neN ((of_two n7).1 _ hnd)
  have hdI := neN ((of_two n7).1 _ hdn)
  have hal := (of_two n7).2
  dsimp only at hnl hdl hnI hdI hal
  clear N5
  k_steps
  rename News g' _ _ _ => N9
  rename Fr g' _ _ _ => F9
  refine Stop.mk ?_
  refine ⟨_, _, _, _ :: new3, rfl, F9, News.sub N9 drop34, List.forall_mem_cons.mpr ⟨Nat.ne_of_lt hIl', (of_two n7).1⟩, Fr.tup F9 htS, ?_⟩
  clear N9 F9
  intro h tk F N
  k_steps
  refine Stop.mk ?_
  k_dflt (refine' node_make ?B4 ?F4 ?X4 ?T4 ?hd4 ?hu4 ?hne4 ?hz4 ?N4 ?ret4)
  case B4 => k_asm
  case F4 => k_asm
  case X4 => k_asm
  case T4 => k_asm
  case N4 => k_asm
  case hd4 => ((try simp only [depth_mark, depth_deeper, depth_under_make, depth_under_kw, depth_in1]); (try dsimp only [ktrTop]); omega)
  case hu4 => ((try simp only [units_in1, units_deeper, Around.mark_units]); (try dsimp only [ktrTop]); omega)
  case hne4 => exact rfl
  case hz4 => exact Nat.le_of_ble_eq_true rfl
  intro ndS dnS h8 tk8 F8 N8
  k_steps
  rename News h₀ _ _ _ => N9
  rename News g' _ _ _ => Ng
  rename Fr h₀ _ _ _ => F9
  rename Heap.StaysIn g' _ => st9
  have J := leave_join N0 R' st9 N9 Ng
  have sub3 := ext3_of Ng
  have I9 := ((inv3_of Ng I3').rebz (bz' := bzA .S k) fun _ _ _ _ z => z).le (cost_S hkp hp1)
  have n9 := ne251 X' Ng (.head _)
  have sn := snode_mk (kn := Mem (_ :: _ :: _ :: new3)) hX (.head _) end_S (.tail _ (.tail _ (.head _))) (.tail _ (.head _)) (((L1.ext X2.mem).ext X3.mem).ext sub3.mem) ((R2.ext X3.mem).ext sub3.mem) (L3.ext sub3.mem)
  exact ret _ _ σ3 _ _ F9 J.1 J.2 (((X1.trans X2).trans X3).trans sub3) I9 ((le1.trans le2).trans le3) trivial (.inr ⟨sok_mk hX hkp hx0 hxl hle3, ndS, rfl, n9, sn⟩)
end Mine
end
section
open PySem PySem.W PyProof.Rows PySem.Calls PySem.Spec
set_option Elab.async false
set_option maxRecDepth 100000
set_option maxHeartbeats 8000000
namespace Mine
theorem prime_ur : (fun (_ : OpenLaw) (_ : Params → Frag) => True) PySem.Challenge.rw_vj0018_01 hd.heap_39 := by
  w_top off
  k_fill
  trivial
local macro_rules | `(tactic| walk_at "no such step") => `(tactic| fail "no such step")
local macro_rules | `(tactic| k_room) => `(tactic| first
  | ((try simp only [depth_mark, depth_under_make, depth_under_kw, depth_in1, depth_deeper, depth_caller]); decide)
  | ((try simp only [depth_mark, depth_under_make, depth_under_kw, depth_in1, depth_deeper, depth_caller]); (try dsimp only [ktrTop]); (simp only [recursionLimit] at *); omega))
local macro_rules | `(tactic| k_units) => `(tactic| first
  | exact Nat.le_of_ble_eq_true rfl
  | (have hcL9 := cLine_is; (try simp only [units_in1, units_deeper, Around.mark_units, units_caller] at *); (try dsimp only [ktrTop] at *); omega))
local macro_rules | `(tactic| walk_at "call ref") => `(tactic| (k_here; ks_any; k_dflt (
   (refine' call_cls ?k1 ?k2 ?k3 ?k4 ?k5 ?k6 ?_; (case k1 => k_asm); (case k2 => k_asm); (case k3 => k_asm); (case k4 => k_is); (case k5 => k_is); (case k6 => k_is); intro x' d' h' F' N' l1 l2; (try k_lt l1); (try k_lt2 l2);
    (refine' ks_code_super ?k1 ?k2 ?k3 ?k4 ?k5 ?kA ?kF ?kK ?k6 ?k7 ?k8 ?k9 ?kB ?_ ?c1 ?c2 ?c3 ?c4; (case kA => exact rfl); (case kF => exact rfl); (case kK => exact rfl); (case k1 => k_asm); (case k2 => k_asm); (case k3 => k_asm); (case k4 => k_asm); (case k5 => k_asm); (case k6 => k_is); (case k7 => k_is); (case k8 => k_room); (case k9 => exact binds_K (by k_in) rfl (by k_is) rfl rfl rfl); (case kB => exact locs rfl); (case c1 => decide); (case c2 => exact rfl); (case c3 => exact rfl); (case c4 => exact rfl); intro g' L' h' FG' F' N' B' X' T' l1; (try k_lt l1); (try dsimp only); (try k_lift B'))))))
local macro_rules | `(tactic| k_inst) => `(tactic| first
  | (refine' InstAt.of_news ?N ?h1 ?h2; (case N => k_asm); (case h1 => k_mem); (case h2 => k_mem))
  | (refine' instB ?F ?h1 ?N ?h2; (case F => k_asm); (case h1 => assumption); (case N => k_asm); (case h2 => k_mem))
  | (refine' instBB ?F ?h1 ?h2; (case F => k_asm); (case h1 => assumption); (case h2 => assumption)))
local macro_rules | `(tactic| walk_at "call builtin:getattr") => `(tactic| (k_here; (with_reducible show wpAny _ _ (call (Value.builtin _) [Value.ref _, Value.str _ _, _]) _ _ _); k_dflt (first
  | (refine' ga3_own ?F ?X ?I ?g ?hh ?ha ?hn ?hl ?hv ?hm ?nm ?_; (case I => k_inst); (case F => k_asm); (case X => k_asm); (case g => k_is); (case hh => k_is); (case ha => k_is); (case hn => k_is); (case hl => k_get); (case hv => k_handed); (case hm => k_is); (case nm => decide); k_whole)
  | (refine' ga3_no ?F ?X ?N ?I ?hA ?g ?hh ?ha ?hl ?hm ?nm ?hc ?hcn ?cp ?ms ?_; (case I => k_inst); (case F => k_asm); (case X => k_asm); (case N => k_asm); (case hA => exact rfl); (case g => k_is); (case hh => k_is); (case ha => k_is); (case hl => k_get); (case hm => k_is); (case nm => decide); (case hc => k_is); (case hcn => decide +kernel); (case cp => decide +kernel); (case ms => decide +kernel); k_whole; intro h' tk' F' N'; (try k_sweep)))))
local macro_rules | `(tactic| walk_at "call builtin:len") => `(tactic| (k_here; (with_reducible show wpAny _ _ (call (Value.builtin "len") [Value.ref _]) _ _ _); k_dflt (refine' kda_len (knd := PySem.intKind _ _) ?N ?m ?d ?lo ?fit ?_; (case N => k_asm); (case m => k_mem); (case d => assumption); (case lo => assumption); (case fit => first | omega | (simp only [List.length_append, List.length_cons, List.length_nil]; omega)); k_whole)))
local macro_rules | `(tactic| walk_at "setItem ref int") => `(tactic| (k_here; k_dflt (refine' kda_set (knd := PySem.intKind _ _) ?F ?N ?U ?d (intKind_is _ _ _ _) ?z ?_; (case F => k_asm); (case N => k_asm); (case U => k_updF); (case d => assumption); (case z => (rw [sizeLine_eq]; first | omega | (simp only [List.length_append, List.length_cons, List.length_nil]; omega))); k_whole); intro h' o' F' N' hd'; (try dsimp only at N'); (try rw [stored_new (by assumption)] at hd'); (try k_sweep)))
local macro_rules | `(tactic| walk_at "compareOp In int ref") => `(tactic| (k_here; k_dflt (first
  | (refine' mp_in0 (knd := PySem.intKind _ _) ?N ?m ?d ?lo (intKind_is _ _ _ _) ?hl ?_; (case N => k_asm); (case m => k_mem); (case d => assumption); (case lo => assumption); (case hl => assumption); k_whole)
  | (refine' mp_in1 (knd := PySem.intKind _ _) ?N ?m ?d ?lo (intKind_is _ _ _ _) ?hl ?_; (case N => k_asm); (case m => k_mem); (case d => assumption); (case lo => assumption); (case hl => assumption); k_whole))))
local macro_rules | `(tactic| walk_at "subscriptTail") => `(tactic| (k_here; (with_reducible show wpAny _ _ (subscriptTail _ _ (Value.ref _) (Value.int _ _)) _ _ _); k_dflt (refine' kda_item (knd := PySem.intKind _ _) ?N ?m ?d (intKind_is _ _ _ _) ?hl ?_ ?hs ?hg; (case N => k_asm); (case m => k_mem); (case d => assumption); (case hl => assumption); (case hs => with_unfolding_all rfl); (case hg => (intro _; with_unfolding_all rfl)); k_whole)))
local macro_rules | `(tactic| walk_at "getMethod ref") => `(tactic| (k_here; (with_reducible show wpAny _ _ (getMethod (Value.ref _) (Str.ofString "get") _) _ _ _); k_dflt (refine' kdg_method (knd := PySem.intKind _ _) ?N ?m ?d ?_; (case N => k_asm); (case m => k_mem); (case d => assumption); k_whole)))
local macro_rules | `(tactic| walk_at "call builtin:dict.get") => `(tactic| (k_here; k_dflt (refine' kdg_get1 (knd := PySem.intKind _ _) ?N ?m ?d ?lo (intKind_is _ _ _ _) _ ?hl ?_; (case N => k_asm); (case m => k_mem); (case d => assumption); (case lo => assumption); (case hl => assumption); k_whole); (try dsimp only [Option.getD])))
local macro_rules | `(tactic| walk_at "getAttr ref") => `(tactic| (k_here; k_dflt (refine' exc_getK ?F ?X ?I ?ga ?gt ?hb ?hh ?ha ?hn ?hl ?hv ?_; (case I => (first | (refine' instE ?iN ?i1 ?i2; (case iN => k_asm); (case i1 => k_mem); (case i2 => k_mem)) | (refine' instEB ?iF ?i1 ?iN ?i2; (case iF => k_asm); (case i1 => assumption); (case iN => k_asm); (case i2 => k_mem)))); (case F => k_asm); (case X => k_asm); (case ga => k_is); (case gt => k_is); (case hb => k_is); (case hh => k_is); (case ha => k_is); (case hn => k_is); (case hl => k_get); (case hv => k_handed); k_whole)))
local macro_rules | `(tactic| walk_at "setAttr ref") => `(tactic| (k_here; k_dflt (first
  | (refine' exc_setK ?F ?X ?N ?I ?hd ?hs ?hc ?hp ?hdd ?ho ?ht ?hl ?e ?U ?hz ?_; (case I => (first | (refine' instE ?iN ?i1 ?i2; (case iN => k_asm); (case i1 => k_mem); (case i2 => k_mem)) | (refine' instEB ?iF ?i1 ?iN ?i2; (case iF => k_asm); (case i1 => assumption); (case iN => k_asm); (case i2 => k_mem)))); (case F => k_asm); (case X => k_asm); (case N => k_asm); (case hd => exact rfl); (case hs => k_is); (case hc => k_is); (case hp => first | exact pass87 _ | exact pass125 _); (case hdd => exact rfl); (case ho => k_is); (case ht => k_is); (case hl => k_get); (case e => k_put); (case U => k_upd); (case hz => exact Nat.le_of_ble_eq_true rfl); k_whole; intro h' F' N'; (try k_sweep))
  | (refine' exc_set0K ?F ?X ?N ?hs ?hc ?hp ?hdd ?ho ?ht ?U ?_; (case F => k_asm); (case X => k_asm); (case N => k_asm); (case U => (intro d'; k_upd)); (case hs => k_is); (case hc => k_is); (case hp => first | exact pass87 _ | exact pass125 _); (case hdd => exact rfl); (case ho => k_is); (case ht => k_is); k_whole; intro d' h' F' N' l1; (try k_lt l1); (try k_sweep)))))
local macro_rules | `(tactic| walk_at "call ref") => `(tactic| (k_here; k_dflt (refine' exc_callK ?F ?X ?N ?hC ?a ?b ?c ?d ?e ?f ?g ?hr ?_; (case F => k_asm); (case X => k_asm); (case N => k_asm); (case hC => k_is); (case a => decide +kernel); (case b => decide +kernel); (case c => decide +kernel); (case d => k_is); (case e => k_is); (case f => k_is); (case g => k_is); (case hr => exact Nat.le_of_ble_eq_true rfl); k_whole; intro x' t' h' F' N' l1 l2; (try k_lt l1); (try k_lt2 l2); (try k_sweep); k_enter)))
local macro_rules | `(tactic| walk_at "call builtin:getattr") => `(tactic| (k_here; (with_reducible show wpAny _ _ (call (Value.builtin _) [Value.none, Value.str _ _, _]) _ _ _); k_dflt (refine' ga3_noneK ?F ?N ?hA ?nm ?hm ?hz ?_; (case F => k_asm); (case N => k_asm); (case hA => exact rfl); (case nm => decide); (case hm => exact am_miss_of_fast (by kernel_rfl)); (case hz => (rw [sizeLine_eq]; decide)); k_whole; intro h' tk' F' N'; (try k_sweep))))
local macro_rules | `(tactic| walk_at "call builtin:getattr") => `(tactic| (k_here; (with_reducible show wpAny _ _ (call (Value.builtin _) [Value.ref _, Value.str (Str.ofString "name") _, _]) _ _ _); k_dflt (refine' ga_nameK ?F ?X ?N ?e ?d ?_; (case F => k_asm); (case X => k_asm); (case N => k_asm); (case e => assumption); (case d => (first | assumption | (repeat (first | assumption | refine List.Mem.tail _ ?_)))); k_whole; intro nm' tk')))
local macro_rules | `(tactic| walk_at "setAttr ref") => `(tactic| (k_here; (with_reducible show wpAny _ _ (setAttr (Value.ref _) (Str.ofString "expr") _) _ _ _); k_dflt (refine' er_set_expr ?F ?X ?N ?I ?hd ?U ?_; (case I => (first | (refine' instE ?iN ?i1 ?i2; (case iN => k_asm); (case i1 => k_mem); (case i2 => k_mem)) | (refine' instEB ?iF ?i1 ?iN ?i2; (case iF => k_asm); (case i1 => assumption); (case iN => k_asm); (case i2 => k_mem)))); (case F => k_asm); (case X => k_asm); (case N => k_asm); (case hd => exact rfl); (case U => k_upd); k_whole; intro h' F' N'; (try k_sweep))))
local macro_rules | `(tactic| walk_at "setAttr ref") => `(tactic| (k_here; (with_reducible show wpAny _ _ (setAttr (Value.ref _) (Str.ofString "pos") _) _ _ _); k_dflt (refine' er_set_pos ?F ?X ?N ?I ?hd ?U ?_; (case I => (first | (refine' instE ?iN ?i1 ?i2; (case iN => k_asm); (case i1 => k_mem); (case i2 => k_mem)) | (refine' instEB ?iF ?i1 ?iN ?i2; (case iF => k_asm); (case i1 => assumption); (case iN => k_asm); (case i2 => k_mem)))); (case F => k_asm); (case X => k_asm); (case N => k_asm); (case hd => exact rfl); (case U => k_upd); k_whole; intro h' F' N'; (try k_sweep))))
local macro_rules | `(tactic| k_all) => `(tactic| first | (refine ?_; assumption) | exact allLt_at (by assumption) | exact allLt_lt (by assumption) (ltN (by (try dsimp only); omega)))
local macro_rules | `(tactic| k_lt $h:ident) => `(tactic| (replace $h := allLt_of $h; (simp only [AllLt, and_true] at $h:ident); (repeat (refine And.elim ?_ $h; clear $h; intro _ $h))))
local macro_rules | `(tactic| k_get) => `(tactic| (refine ?_; assumption))
local macro_rules | `(tactic| walk_at "call ref") => `(tactic| (k_here; (with_reducible show wpAny _ _ (call (Value.ref 297) _ _) _ _ _); (refine Stop.go ?_)))
local macro_rules | `(tactic| walk_at "call ref") => `(tactic| (k_here; (with_reducible show wpAny _ _ (call (Value.ref 243) _ _) _ _ _); (refine Stop.go ?_)))
local macro_rules | `(tactic| walk_at "exec For Name Attribute cons nil") => `(tactic| (k_here; (refine Stop.go ?_)))
local macro_rules | `(tactic| kun_tup) => `(tactic| exact Fr.tup (by k_asm) (by assumption))
local macro_rules | `(tactic| walk_at "compareOp Is ref ref") => `(tactic| (k_here; (with_reducible show wpAny _ _ (compareOp CmpOp.Is (Value.ref _) (Value.ref _)) _ _ _); k_dflt (refine' kto_is ?a ?b ?n ?c ?_; (case a => first | kto_obj | exact kto_N (by k_asm) (by repeat (first | assumption | refine List.Mem.tail _ ?_))); (case b => first | kto_obj | exact Fr.keep (by k_asm) _ _ (by assumption)); (case n => kto_ne); (case c => first | kto_not | assumption); k_whole)))
theorem um_one {w : World} {c : Ctx} (Fi : c.Fine) {k : Nat} (hk : k ≤ c.n)
  (hS : Gives w c 297 .S (k : Int) (4 * (c.n - k) + 4) (10 * (c.n - k) + 6) bz0 (fun σ => KeysLt σ .R (k + 1) ∧ KeysLt σ .S k) (fun _ _ => True) (SVal c k)) :
  Gives w c 441 .R (k : Int) (4 * (c.n - k) + 5) (10 * (c.n - k) + 8) (bzA .R k) (fun σ => KeysLt σ .R (k + 1) ∧ KeysLt σ .S k) (fun _ _ => True) (RVal c k) := by
  have n16 := Fi.n16
  refine ⟨?_⟩
  intro dp un gd cn sn sg sc sm a ccd cl outer A₀ base h₀ L m s p loose mean mg mb Q E M rest σ Bd tp B F X T hd hu N dj G I hBd pre ret
  refine wpAny_call ?_
  k_dflt (refine' code_defR (hid := M) (rest := rest) ?k1 ?k2 ?k3 ?k4 ?k5 ?kA ?kF ?kK ?k6 ?k7 ?k8 ?k9 ?kB ?dj ?_ ?c2 ?c3 ?c4 ?c5; (case kA => exact rfl); (case kF => exact rfl); (case kK => exact rfl); (case k1 => exact B); (case k2 => exact F); (case k3 => exact X); (case k4 => exact N); (case k5 => exact T); (case k6 => k_is); (case k7 => k_is); (case k8 => k_room); (case k9 => exact BindsTo.of_eq rfl); (case c5 => decide); (case kB => exact locs rfl); (case dj => exact dj); (case c2 => exact rfl); (case c3 => exact rfl); (case c4 => exact rfl); k_whole; intro g' L' h' FG' F' N' R' LT' B' X' T' st'; (try dsimp only); (try k_fold))
  have N0 := N
  have hlT : c.len .T = c.r := rfl
  have G' := G.at st' R'
  have hxR : g'.get? (c.ad .R) = some (oneObj (c.dd .R) c.tR (c.it .R) (.str (Str.ofString "s") (c.nt .R))) := (G'.imm .R).g
  have hxS : g'.get? (c.ad .S) = some (seqObj (c.dd .S) c.tS (c.it .S) (.str (Str.ofString "") (c.nt .S))) := (G'.imm .S).g
  have hxT : g'.get? (c.ad .T) = some (litObj (c.dd .T) (.str (c.lit c.r) (c.lt .T)) (c.it .T) (.str (Str.ofString "") (c.nt .T))) := (G'.imm .T).g
  have htR : IsTup g' c.tR #[.ref (c.ad .S), .ref (c.ad .T)] := ⟨_, G'.tR.g, rfl, _, rfl⟩
  have I0 : Inv w c bz0 Bd M σ := I.rebz fun e hl j _ z => by rcases hl with rfl | rfl | rfl <;> cases z.1
  obtain ⟨odR, hodR⟩ := I.dd .R
  have N3 := News.sub N' (M' := (c.dd .R, odR) :: M) (List.forall_mem_cons.mpr ⟨hodR, fun _ h => h⟩)
  clear N' B F T
  k_steps
  refine Stop.mk ?_
  refine for_tup (h₀ := g') rfl ?_
  k_steps
  refine TupHere.of (vs := [.ref (c.ad .S), .ref (c.ad .T)]) (by k_asm) (by k_asm) (Fr.tup (by k_asm) htR) ?_
  intro I1 hI h tk oi F N hI2
  have hIM : ∀ p ∈ M, p.1 ≠ I1 := fun p hp => Nat.ne_of_lt (hI p (.tail _ hp))
  obtain ⟨es1, n1, hod1, hg1⟩ := I.dde .S
  have N4 := dup1o (News.sub N drop1o) hod1
  clear N
  k_steps
  refine Stop.mk ?_
  k_dflt (refine' Gives.use2 (pre := [_]) (hS) ?B ?F ?X ?T ?hd ?hu ?N ?nn G' I0 (by omega) pre ?hpos ?r0)
  case B => k_asm
  case F => k_asm
  case X => k_asm
  case T => k_asm
  case N => k_asm
  case nn => exact one_of hIM
  case hd => ((try simp only [depth_mark, depth_deeper, depth_under_make, depth_under_kw, depth_in1]); (try dsimp only [ktrTop]); omega)
  case hu => ((try simp only [units_in1, units_deeper, Around.mark_units]); (try dsimp only [ktrTop]); omega)
  case hpos => rfl
  intro r1 new1 σ1 h5 tk5 F5 N5 n5 X1 I1' le1 post1 R1
  rcases R1 with ⟨rfl, hno⟩ | ⟨hok, nd1, rfl, hq1, R1⟩
  · k_steps
    rename News g' _ _ _ => N9
    rename Fr g' _ _ _ => F9
    refine Stop.mk ?_
    refine ⟨_, _, _, new1, rfl, F9, N9, of_one n5, Fr.tup F9 htR, ?_⟩
    clear N9 F9
    intro h tk oi F N hI2
    obtain ⟨es2, n2, hod2, hg2⟩ := I1'.dde .T
    have N4 := dup1o N hod2
    clear N
    k_steps
    refine Stop.mk ?_
    k_dflt (refine' Gives.use2 (pre := [_]) (mc_lit (e := .T) (.inr (.inr rfl)) Fi hk) ?B2 ?F2 ?X2 ?T2 ?hd2 ?hu2 ?N2 ?nn2 G' I1' (by omega) trivial ?hpos2 ?r02)
    case B2 => k_asm
    case F2 => k_asm
    case X2 => k_asm
    case T2 => k_asm
    case N2 => k_asm
    case nn2 => exact (have z := of_one n5; one_of z)
    case hd2 => ((try simp only [depth_mark, depth_deeper, depth_under_make, depth_under_kw, depth_in1]); (try dsimp only [ktrTop]); omega)
    case hu2 => ((try simp only [units_in1, units_deeper, Around.mark_units]); (try dsimp only [ktrTop]); omega)
    case hpos2 => rfl
    intro r2 new2 σ2 h6 tk6 F6 N5 n6 X2 I2' le2 post2 R2
    rcases R2 with ⟨rfl, hno2⟩ | ⟨nd2, rfl, hq2, hle2, lc2, dn2, tS2, tE2, hnd, hlc2, od2, hdn⟩
    · k_steps
      rename News g' _ _ _ => N9
      rename Fr g' _ _ _ => F9
      refine Stop.mk ?_
      refine ⟨_, _, _, new2, rfl, F9, N9, of_one n6, Fr.tup F9 htR, ?_⟩
      clear N9 F9
      intro h tk F N
      k_steps
      rename News h₀ _ _ _ => N9
      rename News g' _ _ _ => Ng
      rename Fr h₀ _ _ _ => F9
      rename Heap.StaysIn g' _ => st9
      have J := leave_join N0 R' st9 N9 Ng
      exact ret _ _ σ2 _ _ F9 J.1 J.2 (X1.trans X2) ((I2'.rebz fun _ _ _ _ z => z).le cost_R2) (le1.trans le2) trivial (.inl ⟨rfl, rnone hno hk hno2⟩)
    · have L2 : LitNode (Mem new2) c .T nd2 k (k + (c.len .T : Int)) := ⟨lc2, dn2, tS2, tE2, hnd, hlc2, od2, hdn⟩
      have N6 := dup2o N5 hnd hdn
      have hnI := neN ((of_one n6) _ hnd)
      have hdI := neN ((of_one n6) _ hdn)
      dsimp only at hnI hdI
      clear N5
      k_steps
      refine Stop.mk ?_
      k_dflt (refine' node_make_kw ?B4 ?F4 ?X4 ?T4 ?hd4 ?hu4 ?hne4 ?hz4 ?N4 ?ret4)
      case B4 => k_asm
      case F4 => k_asm
      case X4 => k_asm
      case T4 => k_asm
      case N4 => k_asm
      case hd4 => ((try simp only [depth_mark, depth_deeper, depth_under_make, depth_under_kw, depth_in1]); (try dsimp only [ktrTop]); omega)
      case hu4 => ((try simp only [units_in1, units_deeper, Around.mark_units]); (try dsimp only [ktrTop]); omega)
      case hne4 => exact rfl
      case hz4 => exact Nat.le_of_ble_eq_true rfl
      intro ndR dnR h8 tk8 F8 N8
      k_steps
      rename News h₀ _ _ _ => N9
      rename News g' _ _ _ => Ng
      rename Fr h₀ _ _ _ => F9
      rename Heap.StaysIn g' _ => st9
      have J := leave_join N0 R' st9 N9 Ng
      have sub3 := ext6_of Ng
      have I9 := ((inv6_of Ng I2').rebz (bz' := bzA .R k) fun _ _ _ _ z => z).le cost_R2
      have n9 := ne251 X' Ng (.head _)
      have sn := rnode_base (kn := Mem (_ :: _ :: _ :: _ :: _ :: _ :: new2)) Fi hno hk hle2 (.head _) rfl (.tail _ (.tail _ (.head _))) (.tail _ (.head _)) (L2.ext sub3.mem)
      exact ret _ _ σ2 _ _ F9 J.1 J.2 ((X1.trans X2).trans sub3) I9 (le1.trans le2) trivial (.inr ⟨sn.1, ndR, rfl, n9, sn.2⟩)
  · have R1' := R1
    obtain ⟨lc1, dn1, a1, b1, z1, od1, ep1, tS1, tE1, hnd, hlc1, hdn, hL1, hR1, hQ1⟩ := R1
    have N6 := dup2o N5 hnd hdn
    have hnI := neN ((of_one n5) _ hnd)
    have hdI := neN ((of_one n5) _ hdn)
    dsimp only at hnI hdI
    clear N5
    k_steps
    refine Stop.mk ?_
    k_dflt (refine' node_make_kw ?B5 ?F5 ?X5 ?T5 ?hd5 ?hu5 ?hne5 ?hz5 ?N5 ?ret5)
    case B5 => k_asm
    case F5 => k_asm
    case X5 => k_asm
    case T5 => k_asm
    case N5 => k_asm
    case hd5 => ((try simp only [depth_mark, depth_deeper, depth_under_make, depth_under_kw, depth_in1]); (try dsimp only [ktrTop]); omega)
    case hu5 => ((try simp only [units_in1, units_deeper, Around.mark_units]); (try dsimp only [ktrTop]); omega)
    case hne5 => exact rfl
    case hz5 => exact Nat.le_of_ble_eq_true rfl
    intro ndR dnR h8 tk8 F8 N8
    k_steps
    rename News h₀ _ _ _ => N9
    rename News g' _ _ _ => Ng
    rename Fr h₀ _ _ _ => F9
    rename Heap.StaysIn g' _ => st9
    have J := leave_join N0 R' st9 N9 Ng
    have sub3 := ext6_of Ng
    have I9 := ((inv6_of Ng I1').rebz (bz' := bzA .R k) fun _ _ _ _ z => z).le cost_R
    have n9 := ne251 X' Ng (.head _)
    have sn := rnode_step (kn := Mem (_ :: _ :: _ :: _ :: _ :: _ :: new1)) Fi hok (.head _) rfl (.tail _ (.tail _ (.head _))) (.tail _ (.head _)) (R1'.ext sub3.mem)
    exact ret _ _ σ1 _ _ F9 J.1 J.2 (X1.trans sub3) I9 le1 trivial (.inr ⟨sn.1, ndR, rfl, n9, sn.2⟩)
end Mine
end
section
open PySem PySem.W PyProof.Rows PySem.Calls PySem.Spec
set_option Elab.async false
set_option maxRecDepth 100000
set_option maxHeartbeats 1000000
namespace Mine
theorem hob2_all (c : Ctx) : ∀ e', ∃ C sl nm tk, (C = 367 ∨ C = 425 ∨ C = 451) ∧ c.ob e' = ⟨.ref C, some (c.dd e'), .plain, sl⟩ ∧ (sl[2]?).join = some (.str nm tk) := by
  intro e'
  cases e'
  · exact ⟨451, _, _, _, by decide, rfl, rfl⟩
  · exact ⟨425, _, _, _, by decide, rfl, rfl⟩
  · exact ⟨367, _, _, _, by decide, rfl, rfl⟩
  · exact ⟨367, _, _, _, by decide, rfl, rfl⟩
  · exact ⟨367, _, _, _, by decide, rfl, rfl⟩
theorem keys_put {σ : MSt} {e : Ex} {k : Int} (h : KeysLt σ e k) (v : Value) : KeysLt (σ.put e (σ.row e ++ [(k, v)])) e (k + 1) := by
  intro j u hv
  have hv' : valueAt (if e = e then (σ.row e ++ [(k, v)]) else σ.row e) j = some u := hv
  rw [if_pos rfl, valueAt_app] at hv'
  cases q : valueAt (σ.row e) j with
  | some x => have := h j x q; omega
  | none =>
    rw [q, Option.none_or] at hv'
    split at hv'
    · rename_i z; subst z; omega
    · cases hv'
theorem keys_off {σ : MSt} {e e' : Ex} {k : Int} {kvs : List (Int × Value)} (ne : e' ≠ e) (h : KeysLt σ e' k) : KeysLt (σ.put e kvs) e' k := by
  intro j u hv
  have hv' : valueAt (if e' = e then kvs else σ.row e') j = some u := hv
  rw [if_neg ne] at hv'
  exact h j u hv'
theorem keys_row {σ σ' : MSt} {e : Ex} {k : Int} (r : σ'.row = σ.row) (h : KeysLt σ e k) : KeysLt σ' e k := by
  intro j u hv
  rw [r] at hv
  exact h j u hv
theorem mc_seq {w : World} {c : Ctx} (Fi : c.Fine) {k : Nat} (hk : k ≤ c.n)
    (hR : ∀ k', k < k' → k' ≤ c.n → Gives w c 297 .R (k' : Int) (4 * (c.n - k') + 6) (10 * (c.n - k') + 10) bz0 (fun σ => KeysLt σ .R k' ∧ KeysLt σ .S k') (fun _ _ => True) (RVal c k')) :
    Gives w c 297 .S (k : Int) (4 * (c.n - k) + 4) (10 * (c.n - k) + 6) bz0 (fun σ => KeysLt σ .R (k + 1) ∧ KeysLt σ .S k) (fun _ _ => True) (SVal c k) := by
  have n16 := Fi.n16
  obtain ⟨cd, fe, fz1, fz2⟩ := cls_facts w (.inr rfl : (425 : Addr) = 367 ∨ (425 : Addr) = 425)
  exact mcE (C := 425) (U := 415) (cd := cd) (fa1 := by kernel_rfl) (fa2 := by kernel_rfl) (fa3 := by kernel_rfl) (fb := by kernel_rfl) (fc1 := by kernel_rfl) (fc2 := by kernel_rfl) (fc3 := by kernel_rfl) (fd := by kernel_rfl) (ff := by kernel_rfl) (fg := by kernel_rfl) (fh := by kernel_rfl) (fi := by kernel_rfl) (fj := by kernel_rfl) (fk := by kernel_rfl) (fl := by kernel_rfl) (fe := fe) (fz1 := fz1) (fz2 := fz2) (e := .S) (pos := (k : Int)) (Pre' := fun σ => KeysLt σ .R (k + 1) ∧ KeysLt σ .S (k + 1)) (Post' := fun _ _ => True) (dep := 4 * (c.n - k) + 3) (cost := 10 * (c.n - k) + 4) (hob := rfl) (hob2 := hob2_all c) (hp := by omega) (hp2 := by omega)
    (hum := um_seq Fi hk hR) (hpre := fun σ h => ⟨keys_off (by decide) h.1, keys_put h.2 _⟩) (hpost := fun _ _ _ _ _ _ _ => trivial) (hpost0 := fun _ _ _ _ => trivial) (hrow := fun σ σ' r h => ⟨keys_row r h.1, keys_row r h.2⟩)
    (hres := fun _ _ h => h.res) (hext := fun _ _ _ x h => h.ext x) (hhit := fun _ _ σ v _ h hv => absurd (h.2 _ _ hv) (by omega)) (hlv := fun h => by rcases h with h | h | h <;> cases h)
theorem mc_one {w : World} {c : Ctx} (Fi : c.Fine) {k : Nat} (hk : k ≤ c.n)
    (hR : ∀ k', k < k' → k' ≤ c.n → Gives w c 297 .R (k' : Int) (4 * (c.n - k') + 6) (10 * (c.n - k') + 10) bz0 (fun σ => KeysLt σ .R k' ∧ KeysLt σ .S k') (fun _ _ => True) (RVal c k')) :
    Gives w c 297 .R (k : Int) (4 * (c.n - k) + 6) (10 * (c.n - k) + 10) bz0 (fun σ => KeysLt σ .R k ∧ KeysLt σ .S k) (fun _ _ => True) (RVal c k) := by
  have n16 := Fi.n16
  exact mc451 (e := .R) (pos := (k : Int)) (Pre' := fun σ => KeysLt σ .R (k + 1) ∧ KeysLt σ .S k) (Post' := fun _ _ => True) (dep := 4 * (c.n - k) + 5) (cost := 10 * (c.n - k) + 8) (hob := rfl) (hob2 := hob2_all c) (hp := by omega) (hp2 := by omega)
    (hum := um_one Fi hk (mc_seq Fi hk hR)) (hpre := fun σ h => ⟨keys_put h.1 _, keys_off (by decide) h.2⟩) (hpost := fun _ _ _ _ _ _ _ => trivial) (hpost0 := fun _ _ _ _ => trivial) (hrow := fun σ σ' r h => ⟨keys_row r h.1, keys_row r h.2⟩)
    (hres := fun _ _ h => h.res) (hext := fun _ _ _ x h => h.ext x) (hhit := fun _ _ σ v _ h hv => absurd (h.1 _ _ hv) (by omega)) (hlv := fun h => by rcases h with h | h | h <;> cases h)
/-- the rule's match_core at any place -/
theorem mc_rule {w : World} {c : Ctx} (Fi : c.Fine) : ∀ (left k : Nat), k + left = c.n →
    Gives w c 297 .R (k : Int) (4 * (c.n - k) + 6) (10 * (c.n - k) + 10) bz0 (fun σ => KeysLt σ .R k ∧ KeysLt σ .S k) (fun _ _ => True) (RVal c k) := by
  intro left
  induction left using Nat.strongRecOn with
  | ind left ih =>
    intro k hk
    exact mc_one Fi (by omega) fun k' h1 h2 => ih (c.n - k') (by omega) k' (by omega)
end Mine
end
section
open PySem PySem.W PyProof.Rows PySem.Calls PySem.Spec
set_option Elab.async false
set_option maxRecDepth 100000
set_option maxHeartbeats 1000000
namespace Mine
section
variable {M : Model} {A : Around} {E : Value → Shared → Prop} {env : Env}
variable {nm q : Str} {C N N' : Addr} {bs bm : List Value} {hdct : Bool} {sn : List Str} {sub : List Value} {ab : Bool} {col : Option Bool} {dd od : Option Addr} {k0 k1 k2 k3 k5 : Option Value} {newId : String}
theorem raise_made {s : Shared} {x : Sem Value} {Q : Flow → Shared → Prop} {sl : Array (Option Value)} (hbase : bm.contains (.type "BaseException") = true) (hh : A.handled = none)
    (h : wpAny M A x (fun v s₁ => ∃ e t, v = .ref e ∧ s₁.heap.get? C = some (excClassObj nm q C N bs bm hdct sn sub ab col dd k0 k1 k2 k3 k5 newId) ∧
      s₁.heap.get? e = some { cls := .ref C, dict := od, data := .fields #[.ref t, .none, .none, .none, .bool false, .none], slots := sl } ∧ E (.ref e) s₁) E s) :
    wpAny M A (raiseStmt env (some x) none) Q E s := by
  have hcB : (Value.ref C :: bm).contains (.type "BaseException") = true := by rw [List.contains_cons, hbase, Bool.or_true]
  unfold raiseStmt
  refine wpAny_bind (wpAny_mono h (fun v s₁ h₁ => ?_) fun _ _ x => x)
  obtain ⟨e, t, rfl, hC, he, hE⟩ := h₁
  obtain ⟨hp, g, d, tk, os⟩ := s₁
  repeat (first | with_reducible refine wpAny_loadPart_at he ?_ | with_reducible refine wpAny_loadPart_at hC ?_ | (with_reducible refine wpAny_isSubtype_exc hC ?_; rw [hcB]) | simp only [beq_self_eq_true, if_true, Bool.not_true, bne_self_eq_false, Bool.false_eq_true, if_false] | wp_step)
  exact wpAny_raiseNew_none hh hE
theorem raise_anyM {s : Shared} {x : Sem Value} {Q : Flow → Shared → Prop} {sl : Array (Option Value)} (hbase : bm.contains (.type "BaseException") = true) (hh : A.handled = none)
    (h : wpAny M A x (fun v s₁ => ∃ e t od, v = .ref e ∧ s₁.heap.get? C = some (excClassObj nm q C N bs bm hdct sn sub ab col dd k0 k1 k2 k3 k5 newId) ∧
      s₁.heap.get? e = some { cls := .ref C, dict := od, data := .fields #[.ref t, .none, .none, .none, .bool false, .none], slots := sl } ∧ E (.ref e) s₁) E s) :
    wpAny M A (raiseStmt env (some x) none) Q E s := by
  have hcB : (Value.ref C :: bm).contains (.type "BaseException") = true := by rw [List.contains_cons, hbase, Bool.or_true]
  unfold raiseStmt
  refine wpAny_bind (wpAny_mono h (fun v s₁ h₁ => ?_) fun _ _ x => x)
  obtain ⟨e, t, od, rfl, hC, he, hE⟩ := h₁
  obtain ⟨hp, g, d, tk, os⟩ := s₁
  repeat (first | with_reducible refine wpAny_loadPart_at he ?_ | with_reducible refine wpAny_loadPart_at hC ?_ | (with_reducible refine wpAny_isSubtype_exc hC ?_; rw [hcB]) | simp only [beq_self_eq_true, if_true, Bool.not_true, bne_self_eq_false, Bool.false_eq_true, if_false] | wp_step)
  exact wpAny_raiseNew_none hh hE
theorem raise_name {prog : Program} {w : World} {s : Shared} {x : Str} {np pos : Pos} {Q : Flow → Shared → Prop} {sl : Array (Option Value)} (hbase : bm.contains (.type "BaseException") = true) (hh : A.handled = none)
    (h : wpAny (model prog w) A (eval (.Name x np) env) (fun v s₁ => ∃ e t, v = .ref e ∧ s₁.heap.get? C = some (excClassObj nm q C N bs bm hdct sn sub ab col dd k0 k1 k2 k3 k5 newId) ∧
      s₁.heap.get? e = some { cls := .ref C, dict := od, data := .fields #[.ref t, .none, .none, .none, .bool false, .none], slots := sl } ∧ E (.ref e) s₁) E s) :
    wpAny (model prog w) A (exec (.Raise (some (.Name x np)) none pos) env) Q E s := by
  rw [arm_exec_Raise]
  first
    | refine wpAny_bind (wpAny_standAt (raise_made (C := C) (nm := nm) (q := q) (N := N) (bs := bs) (bm := bm) (hdct := hdct) (sn := sn) (sub := sub) (ab := ab) (col := col) (dd := dd) (k0 := k0) (k1 := k1) (k2 := k2) (k3 := k3) (k5 := k5) (newId := newId) hbase hh (wpAny_bind (wpAny_mono h (fun v s₃ h₃ => wpAny_bind (wpAny_standAt (wpAny_pure h₃))) fun _ _ x => x))))
    | (simp only [evalOpt, Option.map]; refine wpAny_bind (wpAny_standAt (raise_made (C := C) (nm := nm) (q := q) (N := N) (bs := bs) (bm := bm) (hdct := hdct) (sn := sn) (sub := sub) (ab := ab) (col := col) (dd := dd) (k0 := k0) (k1 := k1) (k2 := k2) (k3 := k3) (k5 := k5) (newId := newId) hbase hh (wpAny_bind (wpAny_mono h (fun v s₃ h₃ => wpAny_bind (wpAny_standAt (wpAny_pure h₃))) fun _ _ x => x)))))
theorem raise_var {prog : Program} {w : World} {s : Shared} {x name : Str} {scope : Scope} {L a e t : Addr} {cd : Value} {h₀ : Heap} {m : Str → Option Value} {K : Frag} {news : List (Addr × Obj)} {np pos : Pos} {Q : Flow → Shared → Prop} {sl : Array (Option Value)} (F : Fr h₀ L s.heap m) (X₀ : K.In h₀) (N : News h₀ L s.heap news)
    (hC : K.lookup C = some (excClassObj nm q C N' bs bm hdct sn sub ab col dd k0 k1 k2 k3 k5 newId)) (hbase : bm.contains (.type "BaseException") = true) (hh : A.handled = none) (hv : m x = some (.ref e))
    (he : (e, ({ cls := .ref C, dict := od, data := .fields #[.ref t, .none, .none, .none, .bool false, .none], slots := sl } : Obj)) ∈ news) (hk : scope.kind = .function) (hl : (envOf name scope L a cd).kindOf x = some .local) (hd : (x == ("__debug__" : Str)) = false) (h : E (.ref e) s) :
    wpAny (model prog w) A (exec (.Raise (some (.Name x np)) none pos) (envOf name scope L a cd)) Q E s :=
  raise_name hbase hh (ld F hv ⟨e, t, rfl, X₀.keeps F.keep _ _ hC, (N _ he).1, h⟩ hk hl hd)
theorem raise_any {prog : Program} {w : World} {s : Shared} {K : Frag} {ex : Expr} {pos : Pos} {Q : Flow → Shared → Prop} {h₀ : Heap} {sl : Array (Option Value)} (X₀ : K.In h₀) (hC : K.lookup C = some (excClassObj nm q C N bs bm hdct sn sub ab col dd k0 k1 k2 k3 k5 newId)) (hbase : bm.contains (.type "BaseException") = true) (hh : A.handled = none)
    (h : wpAny (model prog w) A (eval ex env) (fun v s₁ => Stop (∃ e t od, v = .ref e ∧ h₀.StaysIn s₁.heap ∧ s₁.heap.get? e = some { cls := .ref C, dict := od, data := .fields #[.ref t, .none, .none, .none, .bool false, .none], slots := sl } ∧ E (.ref e) s₁)) E s) :
    wpAny (model prog w) A (exec (.Raise (some ex) none pos) env) Q E s := by
  have key : wpAny (model prog w) A (eval ex env) (fun v s₁ => ∃ e t od, v = .ref e ∧ s₁.heap.get? C = some (excClassObj nm q C N bs bm hdct sn sub ab col dd k0 k1 k2 k3 k5 newId) ∧
      s₁.heap.get? e = some { cls := .ref C, dict := od, data := .fields #[.ref t, .none, .none, .none, .bool false, .none], slots := sl } ∧ E (.ref e) s₁) E s :=
    wpAny_mono h (fun v s₁ ⟨⟨e, t, od, a, b, c, d⟩⟩ => ⟨e, t, od, a, b _ _ (X₀ _ _ hC), c, d⟩) fun _ _ x => x
  rw [arm_exec_Raise]
  simp only [evalOpt, Option.map]
  refine wpAny_bind (wpAny_standAt (raise_anyM (C := C) hbase hh (wpAny_bind (wpAny_mono key (fun v s₃ h₃ => wpAny_bind (wpAny_standAt (wpAny_pure h₃))) fun _ _ x => x))))
end
end Mine
end
section
open PySem PySem.W PyProof.Rows PySem.Calls PySem.Spec
set_option Elab.async false
set_option maxRecDepth 100000
set_option maxHeartbeats 1000000
namespace Mine
section
variable {M : Model} {A : Around} {E : Value → Shared → Prop} {s' : Shared} {base g : Heap} {outer : List Env} {L a e t : Addr} {m : Str → Option Value} {name : Str} {scope : Scope} {cd : Value} {Q : Unit → Shared → Prop} {news : List (Addr × Obj)}
theorem leave_raiseI {cls : Value} {vs : List Value} {dx : Option Addr} {sl : Array (Option Value)} (K : Below A base outer g) (F : Fr g L s'.heap m)
    (N : News g L s'.heap ((e, ({ cls := cls, dict := dx, data := .fields #[.ref t, .none, .none, .none, .bool false, .none], slots := sl } : Obj)) :: (t, ({ cls := .type "tuple", data := .seq vs.toArray } : Obj)) :: news)) (n1 : ∀ q ∈ news, q.1 ≠ e) (n2 : ∀ q ∈ news, q.1 ≠ t) {rest : List (Addr × Obj)} (hr : ∀ q ∈ rest, g.get? q.1 = some q.2 ∧ base.get? q.1 = none ∧ q.1 ∉ outer.filterMap (·.frame))
    (hQ : ∀ h', RaisedS base (hideAll g (rest.map (·.1))) outer e cls t vs (news ++ rest) h' → (hideAll g (rest.map (·.1))).UpToSlots h' → Q () { s' with heap := h' }) (hk : scope.kind = .function) :
    wpAny M (A.deeper (envOf name scope L a cd)) (leaving (envOf name scope L a cd) (.ref e)) Q E s' := by
  have K' := K.push (name := name) (a := a) (cd := cd) F hk
  have he := (N _ (.head _)).1
  have ht := (N _ (.tail _ (.head _))).1
  have hge := fresh_of_stays K.stays (N _ (.head _)).2.2
  have hgt := fresh_of_stays K.stays (N _ (.tail _ (.head _))).2.2
  dsimp only at he ht hge hgt
  let as := (envOf name scope L a cd :: outer).filterMap (·.frame) ++ [e, t]
  have hin : ∀ env ∈ (envOf name scope L a cd :: outer), ∀ b, env.frame = some b → b ∈ as := fun env he b hb => List.mem_append_left _ (List.mem_filterMap.mpr ⟨env, he, hb⟩)
  have mem_as : ∀ b ∈ as, b ∈ (envOf name scope L a cd :: outer).filterMap (·.frame) ∨ b = e ∨ b = t := fun b hb => by
    rcases List.mem_append.mp hb with hb | hb
    · exact .inl hb
    · right; simpa using hb
  have st : base.StaysIn (hideAll s'.heap as) := fun b o q => hideAll_get _ (K'.stays b o q) fun hm => by
    rcases mem_as b hm with hm | rfl | rfl
    · rw [(K'.frames.mem hm).1] at q; cases q
    · rw [hge] at q; cases q
    · rw [hgt] at q; cases q
  have hl : ∀ q ∈ news, (hideAll s'.heap as).get? q.1 = some q.2 ∧ base.get? q.1 = none := fun q hq => by
    have Nq := N q (.tail _ (.tail _ hq))
    refine ⟨hideAll_get _ Nq.1 fun hm => ?_, fresh_of_stays K.stays Nq.2.2⟩
    rcases mem_as _ hm with hm | hm | hm
    · obtain ⟨env, he, hf⟩ := List.mem_filterMap.mp hm
      rcases List.mem_cons.mp he with rfl | he
      · exact Nq.2.1 (Option.some.inj hf).symm
      · obtain ⟨o, ho, _⟩ := (K.frames.mem (List.mem_filterMap.mpr ⟨env, he, hf⟩)).2
        rw [Nq.2.2] at ho; cases ho
    · exact n1 q hq hm
    · exact n2 q hq hm
  have gG : ∀ b o, (hideAll g (rest.map (·.1))).get? b = some o → g.get? b = some o := fun b o q => of_hideAll _ q
  have hlr : ∀ q ∈ news ++ rest, (hideAll s'.heap as).get? q.1 = some q.2 ∧ (hideAll g (rest.map (·.1))).get? q.1 = none ∧ base.get? q.1 = none := fun q hq => by
    rcases List.mem_append.mp hq with hq | hq
    · exact ⟨(hl q hq).1, kts_none gG (N q (.tail _ (.tail _ hq))).2.2, (hl q hq).2⟩
    · obtain ⟨r1, r2, r3⟩ := hr q hq
      refine ⟨hideAll_get _ (F.keep _ _ r1) fun hm => ?_, hideAll_none _ (List.mem_map_of_mem hq), r2⟩
      rcases mem_as _ hm with hm | hm | hm
      · obtain ⟨env, he, hf⟩ := List.mem_filterMap.mp hm
        rcases List.mem_cons.mp he with rfl | he
        · have z : L = q.1 := Option.some.inj hf
          exact absurd (Heap.lt_size r1) (Nat.not_lt.mpr (z ▸ F.above))
        · exact r3 (List.mem_filterMap.mpr ⟨env, he, hf⟩)
      · have z := (N _ (.head _)).2.2
        dsimp only at z
        rw [← hm, r1] at z; cases z
      · have z := (N _ (.tail _ (.head _))).2.2
        dsimp only at z
        rw [← hm, r1] at z; cases z
  have sg : ∀ b o, (hideAll g (rest.map (·.1))).get? b = some o → b ∉ outer.filterMap (·.frame) → (hideAll s'.heap as).get? b = some o := fun b o q nm => by
    have q := gG b o q
    refine hideAll_get _ (F.keep b o q) fun hm => ?_
    rcases mem_as _ hm with hm | hm | hm
    · rcases kts_mem hm with z | z
      · rw [z, kts_self F] at q; cases q
      · exact nm z
    · have z := (N _ (.head _)).2.2
      dsimp only at z
      rw [← hm, q] at z; cases z
    · have z := (N _ (.tail _ (.head _))).2.2
      dsimp only at z
      rw [← hm, q] at z; cases z
  have hBe : (hideAll s'.heap as).get? e = none := hideAll_none _ (List.mem_append_right _ (.head _))
  have hBt : (hideAll s'.heap as).get? t = none := hideAll_none _ (List.mem_append_right _ (.tail _ (.head _)))
  refine wpAny_leaving_firstW (base := hideAll s'.heap as) (a0 := .ref t) K'.stack (funFrames_hide K'.frames hin) rfl he (fun b o q => of_hideAll _ q) hBe rfl rfl rfl fun h' hL => ?_
  obtain ⟨k1, ⟨_, _, k2⟩, k3, k4⟩ := hL
  exact hQ h' ⟨⟨_, st, sg, hlr, ⟨k1, hBe, k2, k3⟩, hBt⟩, Heap.TupAt.of_slots ⟨_, _, ht, rfl, rfl⟩ k4⟩ ((Heap.UpToSlots.of_keeps fun b o q => F.keep _ _ (gG b o q)).trans k4)
end
theorem Fr.hide {h₀ g h : Heap} {L : Addr} {m : Str → Option Value} {M rest : List (Addr × Obj)} (F : Fr h₀ L g m) (N : News h₀ L h (M ++ rest)) : Fr h₀ L (hideAll g (rest.map (·.1))) m := by
  obtain ⟨⟨oL, es, ep, hL, hLd, hLk, hLf⟩, k, ab⟩ := F
  have nm : ∀ b, b ∈ rest.map (·.1) → b ≠ L ∧ h₀.get? b = none := fun b hb => by
    obtain ⟨q, hq, rfl⟩ := List.mem_map.mp hb
    exact ⟨(N q (List.mem_append_right _ hq)).2.1, (N q (List.mem_append_right _ hq)).2.2⟩
  exact ⟨⟨oL, es, ep, hideAll_get _ hL fun hb => (nm _ hb).1 rfl, hLd, hLk, hLf⟩, (fun b o q => hideAll_get _ (k b o q) fun hb => by rw [(nm _ hb).2] at q; cases q), ab⟩
theorem rest_ok {A₀ : Around} {base h₀ h : Heap} {outer : List Env} {L : Addr} {M rest : List (Addr × Obj)} (B : Below A₀ base outer h₀) (N : News h₀ L h (M ++ rest)) : ∀ env : Env, env.frame = some L → ∀ q ∈ rest, base.get? q.1 = none ∧ q.1 ∉ (env :: outer).filterMap (·.frame) := by
  intro env hf q hq
  have Nq := N q (List.mem_append_right _ hq)
  refine ⟨fresh_of_stays B.stays Nq.2.2, fun hm => ?_⟩
  obtain ⟨env', he, hf'⟩ := List.mem_filterMap.mp hm
  rcases List.mem_cons.mp he with rfl | he
  · exact Nq.2.1 (Option.some.inj (hf'.symm.trans hf))
  · obtain ⟨o, ho, _⟩ := (B.frames.mem (List.mem_filterMap.mpr ⟨env', he, hf'⟩)).2
    rw [Nq.2.2] at ho; cases ho
end Mine
end
section
open PySem PySem.W PyProof.Rows PySem.Calls PySem.Spec
set_option Elab.async false
set_option maxRecDepth 100000
set_option maxHeartbeats 1000000
namespace Mine
/-- the five dicts between matches -/
def Md (c : Ctx) (D : Ex → Obj) : List (Addr × Obj) := [(c.dd .R, D .R), (c.dd .S, D .S), (c.dd .P, D .P), (c.dd .Q, D .Q), (c.dd .T, D .T)]
theorem Md_mem {c : Ctx} {D : Ex → Obj} (e : Ex) : (c.dd e, D e) ∈ Md c D := by
  cases e
  · exact .head _
  · exact .tail _ (.head _)
  · exact .tail _ (.tail _ (.head _))
  · exact .tail _ (.tail _ (.tail _ (.head _)))
  · exact .tail _ (.tail _ (.tail _ (.tail _ (.head _))))
theorem Md_of {c : Ctx} {D : Ex → Obj} {p : Addr × Obj} (h : p ∈ Md c D) : ∃ e, p = (c.dd e, D e) := by
  unfold Md at h
  simp only [List.mem_cons, List.not_mem_nil, or_false] at h
  rcases h with h | h | h | h | h
  · exact ⟨_, h⟩
  · exact ⟨_, h⟩
  · exact ⟨_, h⟩
  · exact ⟨_, h⟩
  · exact ⟨_, h⟩
/-- the rule between matches -/
structure RSt (c : Ctx) (D : Ex → Obj) (kn : Addr → Obj → Prop) : Prop where
  imm : ∀ e, kn (c.ad e) (c.ob e)
  tR : kn c.tR (tupObj #[.ref (c.ad .S), .ref (c.ad .T)])
  tS : kn c.tS (tupObj #[.ref (c.ad .P), .ref (c.ad .R), .ref (c.ad .Q)])
  told : ∀ e, c.old e ≠ [] → kn (c.told e) (tupObj (titems (c.its e)))
  its : ∀ e, Items kn (c.its e) (c.old e)
  ddne : ∀ e e', e ≠ e' → @Ne Nat (c.dd e) (c.dd e')
  d0 : ∀ e, c.old e = [] → D e = dictOf [] 0
  d1 : ∀ e, c.old e ≠ [] → ∃ hh tk nd, D e = oidsDict hh tk (c.told e) nd
theorem RSt.mono {c : Ctx} {D : Ex → Obj} {kn kn' : Addr → Obj → Prop} (R : RSt c D kn) (k : ∀ a o, kn a o → kn' a o) : RSt c D kn' where
  imm e := k _ _ (R.imm e)
  tR := k _ _ R.tR
  tS := k _ _ R.tS
  told e h := k _ _ (R.told e h)
  its e := (R.its e).map k
  ddne := R.ddne
  d0 := R.d0
  d1 := R.d1
abbrev Ctx.begin (c : Ctx) (cache err derr at_ : Addr) : Ctx := { c with cache := cache, err := err, derr := derr, at_ := at_ }
def MSt.zero : MSt := ⟨fun _ => none, fun _ => [], []⟩
theorem start_G {c : Ctx} {D : Ex → Obj} {g : Heap} {cache derr err at_ : Addr} {oT : Obj} (R : RSt c D (Kn g [])) (hj : ∀ e, (c.its e).length ≤ 99)
    (l1 : ∀ p ∈ Md c D, @LT.lt Nat _ p.1 cache) (l2 : @LT.lt Nat _ derr cache) (l3 : ∀ p ∈ Md c D, @Ne Nat p.1 derr) (lo : (cache == sysModules) = false) :
    Gnd (c.begin cache err derr at_) (Kn g [(err, errObj derr at_), (at_, oT)]) where
  imm e := .inl (R.imm e).g
  tR := .inl R.tR.g
  tS := .inl R.tS.g
  err := .inr (.head _)
  told e h := .inl (R.told e h).g
  its e := (R.its e).map fun _ _ a => .inl a.g
  small e := Nat.le_trans (hj e) (by omega)
  dds e := l1 _ (Md_mem e)
  derrlt := l2
  ddne := R.ddne
  ddder e := l3 _ (Md_mem e)
  lo := lo
theorem start_I {w : World} {c : Ctx} {D : Ex → Obj} {kn : Addr → Obj → Prop} {cache derr err at_ : Addr} {oC ER : Obj} (R : RSt c D kn) (hoC : oC.IsDictOf (IK w) []) (hER : ErOk (c.begin cache err derr at_) ER) :
    Inv w (c.begin cache err derr at_) bz0 0 ((cache, oC) :: (derr, ER) :: Md c D) MSt.zero where
  dict0 e _ h := .tail _ (.tail _ (R.d0 e h ▸ Md_mem e))
  dict1 e _ h := let ⟨hh, tk, nd, x⟩ := R.d1 e h; ⟨hh, tk, nd, .tail _ (.tail _ (x ▸ Md_mem e))⟩
  dict2 e k row h := nomatch h
  cache := ⟨oC, .head _, hoC⟩
  er := ⟨ER, .tail _ (.head _), hER⟩
  keys j v h := nomatch h
  count := by decide
  vals j v h := nomatch h
  asked e k row h := nomatch h
  unrow e _ := rfl
  rowne e e' k k' row row' h := nomatch h
  lits e _ j v _ h := nomatch h
  size e := Nat.zero_le _
structure Pick (c : Ctx) (new : List (Addr × Obj)) (kn kn' : Addr → Obj → Prop) (e : Ex) (y : Obj × Addr × List Addr × List (Int × Addr)) : Prop where
  mem : (c.dd e, y.1) ∈ new
  d0 : y.2.2.2 = [] → y.1 = dictOf [] 0
  d1 : y.2.2.2 ≠ [] → ∃ hh tk nd, y.1 = oidsDict hh tk y.2.1 nd
  told : y.2.2.2 ≠ [] → kn' y.2.1 (tupObj (titems y.2.2.1))
  its : Items kn' y.2.2.1 y.2.2.2
  len : y.2.2.1.length ≤ (c.its e).length + 1
/-- what a match leaves of an expression -/
theorem pick_end {w : World} {c : Ctx} {Bd : Nat} {new : List (Addr × Obj)} {σ : MSt} {kn kn' : Addr → Obj → Prop} (I : Inv w c bz0 Bd new σ) (told : ∀ e, c.old e ≠ [] → kn (c.told e) (tupObj (titems (c.its e)))) (its : ∀ e, Items kn (c.its e) (c.old e))
    (k : ∀ a o, kn a o → kn' a o) (km : ∀ a o, (a, o) ∈ new → (o.cls ≠ .type "dict" ∨ @LT.lt Nat _ c.cache a) → kn' a o) (e : Ex) : ∃ y, Pick c new kn kn' e y := by
  cases q : σ.ask e with
  | none =>
    by_cases z : c.old e = []
    · exact ⟨(dictOf [] 0, c.told e, c.its e, c.old e), I.dict0 e q z, fun _ => rfl, fun h => absurd z h, fun h => absurd z h, (its e).map k, Nat.le_succ _⟩
    · obtain ⟨hh, tk, nd, x⟩ := I.dict1 e q z
      exact ⟨(oidsDict hh tk (c.told e) nd, c.told e, c.its e, c.old e), x, fun h => absurd h z, fun _ => ⟨hh, tk, nd, rfl⟩, fun h => k _ _ (told e h), (its e).map k, Nat.le_succ _⟩
  | some kr =>
    obtain ⟨kk, row⟩ := kr
    obtain ⟨hh, tk, t, nd, it, tk', x, y, z⟩ := I.dict2 e kk row q
    obtain ⟨_, _, lt, oR, mR, dR⟩ := I.asked e kk row q
    exact ⟨(oidsDict hh tk t nd, t, it :: c.its e, (kk, row) :: c.old e), x, (fun h => nomatch h), fun _ => ⟨hh, tk, nd, rfl⟩, fun _ => km _ _ y (.inl cls_tup_ne), .cons (km _ _ z (.inl cls_tup_ne)) (km _ _ mR (.inr lt)) (dictOf_cls dR) ((its e).map k), Nat.le_refl _⟩
theorem isDict_of_pick {c : Ctx} {new : List (Addr × Obj)} {kn kn' : Addr → Obj → Prop} {e : Ex} {y : Obj × Addr × List Addr × List (Int × Addr)} (p : Pick c new kn kn' e y) : y.1.cls = .type "dict" := by
  by_cases h : y.2.2.2 = []
  · rw [p.d0 h]
  · obtain ⟨_, _, _, x⟩ := p.d1 h
    rw [x]
abbrev Ctx.later (c : Ctx) (f : Ex → Obj × Addr × List Addr × List (Int × Addr)) : Ctx := { c with told := fun e => (f e).2.1, its := fun e => (f e).2.2.1, old := fun e => (f e).2.2.2 }
/-- the rule behind a match: the ledger split anew -/
theorem rst_end {w : World} {c : Ctx} {Bd : Nat} {new rest more : List (Addr × Obj)} {σ : MSt} {h₀ h : Heap} {L : Addr} (N : News h₀ L h (new ++ (more ++ rest))) (dj : ∀ p ∈ new, ∀ q ∈ more ++ rest, p.1 ≠ q.1) (I : Inv w c bz0 Bd new σ)
    (imm : ∀ e, Kn h₀ rest (c.ad e) (c.ob e)) (tR : Kn h₀ rest c.tR (tupObj #[.ref (c.ad .S), .ref (c.ad .T)])) (tS : Kn h₀ rest c.tS (tupObj #[.ref (c.ad .P), .ref (c.ad .R), .ref (c.ad .Q)]))
    (told : ∀ e, c.old e ≠ [] → Kn h₀ rest (c.told e) (tupObj (titems (c.its e)))) (its : ∀ e, Items (Kn h₀ rest) (c.its e) (c.old e)) (ddne : ∀ e e', e ≠ e' → @Ne Nat (c.dd e) (c.dd e')) (dlt : ∀ e, @LT.lt Nat _ (c.dd e) c.cache) :
    ∃ (D : Ex → Obj) (f : Ex → Obj × Addr × List Addr × List (Int × Addr)) (rest' : List (Addr × Obj)), News h₀ L h (Md c D ++ rest') ∧ (∀ p ∈ Md c D, ∀ q ∈ rest', p.1 ≠ q.1) ∧ (∀ p ∈ rest, p ∈ rest') ∧ RSt (c.later f) D (Kn h₀ rest') ∧
      (∀ e, (f e).2.2.1.length ≤ (c.its e).length + 1) ∧ (∀ p ∈ new, p ∈ Md c D ++ rest') ∧ (∀ p ∈ more, p ∈ rest') ∧ (∀ p ∈ Md c D ++ rest', p ∈ new ++ (more ++ rest)) := by
  have offd : ∀ a o, (a, o) ∈ new → (o.cls ≠ .type "dict" ∨ @LT.lt Nat _ c.cache a) → ∀ e, a ≠ c.dd e := by
    intro a o hm hc e z
    rcases hc with hc | hc
    · obtain ⟨y, p⟩ := pick_end (kn := Kn h₀ rest) (kn' := fun _ _ => True) I told its (fun _ _ _ => trivial) (fun _ _ _ _ => trivial) e
      have u : (c.dd e, o) ∈ new := z ▸ hm
      have t : o = y.1 := Option.some.inj ((N _ (List.mem_append_left _ u)).1.symm.trans (N _ (List.mem_append_left _ p.mem)).1)
      exact hc (by rw [t]; exact isDict_of_pick p)
    · subst z
      exact absurd hc (Nat.not_lt.mpr (Nat.le_of_lt (dlt e)))
  let nd : List (Addr × Obj) := new.filter fun p => decide (∀ e ∈ [Ex.R, .S, .P, .Q, .T], p.1 ≠ c.dd e)
  have hall : ∀ e : Ex, e ∈ [Ex.R, .S, .P, .Q, .T] := fun e => by cases e <;> decide
  have ndm : ∀ a o, (a, o) ∈ new → (∀ e, a ≠ c.dd e) → (a, o) ∈ nd := fun a o hm hn => List.mem_filter.mpr ⟨hm, decide_eq_true fun e _ => hn e⟩
  have ndo : ∀ p ∈ nd, p ∈ new ∧ ∀ e, p.1 ≠ c.dd e := fun p hp => ⟨(List.mem_filter.mp hp).1, fun e => of_decide_eq_true (List.mem_filter.mp hp).2 e (hall e)⟩
  let rest' := nd ++ (more ++ rest)
  have sub : ∀ p ∈ rest, p ∈ rest' := fun p hp => List.mem_append_right _ (List.mem_append_right _ hp)
  have km : ∀ a o, Kn h₀ rest a o → Kn h₀ rest' a o := fun a o h => h.mono sub
  obtain ⟨f, hf⟩ := Classical.axiomOfChoice (pick_end (kn := Kn h₀ rest) (kn' := Kn h₀ rest') I told its km (fun a o hm hc => .inr (List.mem_append_left _ (ndm a o hm (offd a o hm hc)))))
  refine ⟨fun e => (f e).1, f, rest', ?_, ?_, sub, ?_, fun e => (hf e).len, ?_, fun p hp => List.mem_append_right _ (List.mem_append_left _ hp), ?_⟩
  · intro p hp
    rcases List.mem_append.mp hp with hp | hp
    · obtain ⟨e, rfl⟩ := Md_of hp
      exact N _ (List.mem_append_left _ (hf e).mem)
    · rcases List.mem_append.mp hp with hp | hp
      · exact N _ (List.mem_append_left _ (ndo p hp).1)
      · exact N _ (List.mem_append_right _ hp)
  · intro p hp q hq
    obtain ⟨e, rfl⟩ := Md_of hp
    rcases List.mem_append.mp hq with hq | hq
    · exact fun z => (ndo q hq).2 e z.symm
    · exact dj _ (hf e).mem q hq
  · exact ⟨fun e => km _ _ (imm e), km _ _ tR, km _ _ tS, fun e h => (hf e).told h, fun e => (hf e).its, ddne, fun e h => (hf e).d0 h, fun e h => (hf e).d1 h⟩
  · intro p hp
    by_cases z : ∃ e, p.1 = c.dd e
    · obtain ⟨e, z⟩ := z
      obtain ⟨a, o⟩ := p
      dsimp only at z
      subst z
      have := Option.some.inj ((N _ (List.mem_append_left _ hp)).1.symm.trans (N _ (List.mem_append_left _ (hf e).mem)).1)
      have h2 : o = (f e).1 := this
      subst h2
      exact List.mem_append_left _ (Md_mem (D := fun e => (f e).1) e)
    · exact List.mem_append_right _ (List.mem_append_left _ (ndm _ _ hp fun e q => z ⟨e, q⟩))
  · intro p hp
    rcases List.mem_append.mp hp with hp | hp
    · obtain ⟨e, rfl⟩ := Md_of hp
      exact List.mem_append_left _ (hf e).mem
    · rcases List.mem_append.mp hp with hp | hp
      · exact List.mem_append_left _ (ndo p hp).1
      · exact List.mem_append_right _ hp
theorem Fine.begin {c : Ctx} (Fi : c.Fine) (a b d e : Addr) : (c.begin a b d e).Fine := ⟨Fi.len, Fi.starts, Fi.p0, Fi.p4, Fi.q0, Fi.q4, Fi.r0, Fi.r4, Fi.n16⟩
theorem mem_go {c : Ctx} {D : Ex → Obj} {x1 x2 x3 x4 : Addr × Obj} {oR : Obj} (hDR : D .R = oR) : ∀ p ∈ (x1 :: x2 :: Md c D) ++ [x3, x4], p ∈ [x1, x2, x3, x4, (c.dd .R, oR), (c.dd .S, D .S), (c.dd .P, D .P), (c.dd .Q, D .Q), (c.dd .T, D .T)] := by
  subst hDR
  intro p hp
  unfold Md at hp
  simp only [List.cons_append, List.nil_append, List.mem_cons, List.not_mem_nil, or_false] at hp ⊢
  rcases hp with h | h | h | h | h | h | h | h | h <;> simp [h]
theorem rule_go {w : World} {c : Ctx} (Fi : c.Fine) {k : Nat} (hk : k ≤ c.n)
    {dp un : Nat} {gd : Option (List Code)} {cn : Str} {sn : List (Str × NameKind)} {sg sc : Bool} {sm : List (Str × Const)} {a : Addr} {ccd : Value} {cl : List (Str × Addr)} {outer : List Env} {A₀ : Around} {base h₀ : Heap} {L : Addr} {m : Str → Option Value} {s : Shared}
    {p : Program} {loose : List Str} {mean : ExcName → Option Value} {mg mb : Str → Option Value} {Q E : Value → Shared → Prop} {news : List (Addr × Obj)} {tp : Tok} {cache err : Addr}
    (B : Below A₀ base outer h₀) (F : Fr h₀ L s.heap m) (X : (hd.heap_39 w.params).In h₀) (T : Top p loose mean mg mb h₀) (hd : dp + 110 < recursionLimit) (hu : un + 1100 < cLine)
    (N : News h₀ L s.heap news)
    (h : ∃ derr at_ M rest σ Bd, (∀ p ∈ M ++ rest, p ∈ news) ∧ (∀ p ∈ M, ∀ q ∈ rest, p.1 ≠ q.1) ∧ Gnd (c.begin cache err derr at_) (Kn h₀ rest) ∧ Inv w (c.begin cache err derr at_) bz0 Bd M σ ∧ Bd ≤ 1000 ∧ (KeysLt σ .R k ∧ KeysLt σ .S k) ∧
      ∀ r new σ' h' tk' Bd', Fr h₀ L h' m → News h₀ L h' (new ++ rest) → (∀ p ∈ new, ∀ q ∈ rest, p.1 ≠ q.1) → Ext M new → Inv w (c.begin cache err derr at_) bz0 Bd' new σ' → RVal (c.begin cache err derr at_) k (Mem new) r → Q r ⟨h', s.gens, s.drawn, tk', s.os⟩) :
    wpAny (model PR w) (ktrTop dp un gd cn ⟨.function, sn, sg, sc, sm⟩ L a ccd cl outer) (call (.ref 297) [.ref (c.ad .R), c.text, .int (k : Int) tp, .ref cache, .ref err]) Q E s := by
  obtain ⟨derr, at_, M, rest, σ, Bd, h1, h2, h3, h4, h5, h6, h7⟩ := h
  have n16 := Fi.n16
  exact Gives.use (mc_rule (Fine.begin Fi cache err derr at_) (c.n - k) k (by show k + (c.n - k) = c.n; omega)) B F X T (by show dp + (4 * (c.n - k) + 6) + 30 < _; omega) (by show un + 10 * (4 * (c.n - k) + 6) + 300 < _; omega) N rfl
    ⟨M, rest, σ, Bd, h1, h2, h3, h4, by show Bd + (10 * (c.n - k) + 10) ≤ 100000; omega, h6, fun r new σ' h' tk' a1 a2 a3 a4 a5 _ _ a6 => h7 r new σ' h' tk' _ a1 a2 a3 a4 a5 a6⟩
theorem dupE {M : List (Addr × Obj)} {x y z : Addr × Obj} (h : z ∈ M) : ∀ p ∈ x :: y :: z :: M, p ∈ M ++ [x, y] := by
  simp only [List.forall_mem_cons]
  exact ⟨List.mem_append_right _ (.head _), List.mem_append_right _ (.tail _ (.head _)), List.mem_append_left _ h, fun p hp => List.mem_append_left _ hp⟩
theorem match_ok {w : World} {c : Ctx} {D : Ex → Obj} {base h₀ g h h' h'' : Heap} {L L' : Addr} {rest new : List (Addr × Obj)} {x1 x2 : Addr × Obj} {cache err derr at_ : Addr} {Bd : Nat} {σ : MSt} (st : base.StaysIn h₀) (RS : RSt c D (Kn base rest))
    (N0 : News h₀ L h (Md c D ++ rest)) (R' : ∀ p ∈ rest, g.get? p.1 = some p.2) (st9 : g.StaysIn h') (N9 : News h₀ L h' (new ++ [x1, x2])) (Ng : News g L' h'' (new ++ [x1, x2])) (dj5 : ∀ p ∈ new, ∀ q ∈ [x1, x2], p.1 ≠ q.1)
    (I : Inv w (c.begin cache err derr at_) bz0 Bd new σ) (dlt : ∀ e, @LT.lt Nat _ (c.dd e) cache) :
    ∃ (D' : Ex → Obj) (f : Ex → Obj × Addr × List Addr × List (Int × Addr)) (rest' : List (Addr × Obj)), News h₀ L h' (Md c D' ++ rest') ∧ (∀ p ∈ Md c D', ∀ q ∈ rest', p.1 ≠ q.1) ∧ (∀ p ∈ rest, p ∈ rest') ∧ RSt ((c.begin cache err derr at_).later f) D' (Kn base rest') ∧
      (∀ e, (f e).2.2.1.length ≤ (c.its e).length + 1) ∧ (∀ p ∈ new, p ∈ Md c D' ++ rest') := by
  obtain ⟨j1, j2⟩ := leave_join N0 R' st9 N9 Ng
  have NN : News h₀ L h' (new ++ ([x1, x2] ++ rest)) := by rw [← List.append_assoc]; exact j1
  have dj : ∀ p ∈ new, ∀ q ∈ [x1, x2] ++ rest, p.1 ≠ q.1 := fun p hp q hq => by
    rcases List.mem_append.mp hq with hq | hq
    · exact dj5 p hp q hq
    · exact j2 p (List.mem_append_left _ hp) q hq
  have NB : News base L h' (new ++ ([x1, x2] ++ rest)) := fun p hp => ⟨(NN p hp).1, (NN p hp).2.1, fresh_of_stays st (NN p hp).2.2⟩
  obtain ⟨D', f, rest', a1, a2, a3, a4, a5, a6, _, a8⟩ := rst_end (c := c.begin cache err derr at_) NB dj I RS.imm RS.tR RS.tS RS.told RS.its RS.ddne dlt
  exact ⟨D', f, rest', News.sub NN a8, a2, a3, a4, a5, a6⟩
theorem RaisedS.sub {base G h : Heap} {l : List Env} {e t : Addr} {cls : Value} {vs : List Value} {news news' : List (Addr × Obj)} (R : RaisedS base G l e cls t vs news h) (k : ∀ p ∈ news', p ∈ news) : RaisedS base G l e cls t vs news' h := by
  obtain ⟨⟨B, a, c, b, d, e⟩, f⟩ := R
  exact ⟨⟨B, a, c, fun q hq => b q (k q hq), d, e⟩, f⟩
theorem match_bad {w : World} {c : Ctx} {D : Ex → Obj} {base g h h' h₀ : Heap} {L L' : Addr} {m' : Str → Option Value} {rest new : List (Addr × Obj)} {x1 x2 : Addr × Obj} {z : Addr × Obj} {cache err derr at_ e t : Addr} {Bd : Nat} {σ : MSt} {l : List Env} {cls : Value} {vs : List Value} (RS : RSt c D (Kn base rest))
    (N0 : News h₀ L h (Md c D ++ rest)) (R' : ∀ p ∈ rest, g.get? p.1 = some p.2) (F5 : Fr g L' h' m') (Ng : News g L' h' (new ++ [x1, x2])) (stb : base.StaysIn g) (hb : ∀ q ∈ rest, base.get? q.1 = none)
    (I : Inv w (c.begin cache err derr at_) bz0 Bd new σ) (dlt : ∀ e, @LT.lt Nat _ (c.dd e) cache) {h9 G : Heap} (R9 : RaisedS base G l e cls t vs ((z :: new) ++ rest) h9) :
    ∃ (D' : Ex → Obj) (f : Ex → Obj × Addr × List Addr × List (Int × Addr)) (rest' : List (Addr × Obj)), RaisedS base G l e cls t vs (Md c D' ++ rest') h9 ∧ (∀ p ∈ Md c D', ∀ q ∈ rest', p.1 ≠ q.1) ∧ (∀ p ∈ rest, p ∈ rest') ∧ RSt ((c.begin cache err derr at_).later f) D' (Kn base rest') ∧
      (∀ e, (f e).2.2.1.length ≤ (c.its e).length + 1) := by
  have NB : News base L' h' (new ++ ([] ++ rest)) := fun p hp => by
    rcases List.mem_append.mp hp with hp | hp
    · have q := Ng p (List.mem_append_left _ hp)
      exact ⟨q.1, q.2.1, fresh_of_stays stb q.2.2⟩
    · have q := R' p hp
      exact ⟨F5.keep _ _ q, Nat.ne_of_lt (Nat.lt_of_lt_of_le (Heap.lt_size q) F5.above), hb p hp⟩
  have dj : ∀ p ∈ new, ∀ q ∈ [] ++ rest, p.1 ≠ q.1 := fun p hp q hq => by
    have a := (Ng p (List.mem_append_left _ hp)).2.2
    have b := R' q hq
    intro e
    rw [e, b] at a; cases a
  obtain ⟨D', f, rest', a1, a2, a3, a4, a5, a6, _, a8⟩ := rst_end (c := c.begin cache err derr at_) NB dj I RS.imm RS.tR RS.tS RS.told RS.its RS.ddne dlt
  exact ⟨D', f, rest', RaisedS.sub R9 fun p hp => (List.mem_append.mp (a8 p hp)).elim (fun q => List.mem_append_left _ (.tail _ q)) fun q => List.mem_append_right _ q, a2, a3, a4, a5⟩
theorem dlt_of {w : World} {c : Ctx} {cache err derr at_ : Addr} {Bd : Nat} {new : List (Addr × Obj)} {σ : MSt} (_ : Inv w (c.begin cache err derr at_) bz0 Bd new σ)
    (h1 : @LT.lt Nat _ (c.dd .R) cache) (h2 : @LT.lt Nat _ (c.dd .S) cache) (h3 : @LT.lt Nat _ (c.dd .P) cache) (h4 : @LT.lt Nat _ (c.dd .Q) cache) (h5 : @LT.lt Nat _ (c.dd .T) cache) : ∀ e, @LT.lt Nat _ (c.dd e) cache := by
  intro e; cases e <;> assumption
end Mine
end
section
open PySem PySem.W PyProof.Rows PySem.Calls PySem.Spec
set_option Elab.async false
set_option maxRecDepth 100000
set_option maxHeartbeats 8000000
namespace Mine
theorem prime_match : (fun (_ : OpenLaw) (_ : Params → Frag) => True) PySem.Challenge.rw_vj0018_01 hd.heap_39 := by
  w_top off
  k_fill
  trivial
local macro_rules | `(tactic| k_room) => `(tactic| first
  | ((try simp only [depth_mark, depth_under_make, depth_under_kw, depth_in1, depth_deeper, depth_caller]); decide)
  | ((try simp only [depth_mark, depth_under_make, depth_under_kw, depth_in1, depth_deeper, depth_caller]); (try dsimp only [ktrTop]); (simp only [recursionLimit] at *); omega))
local macro_rules | `(tactic| k_units) => `(tactic| first
  | exact Nat.le_of_ble_eq_true rfl
  | (have hcL9 := cLine_is; (try simp only [units_in1, units_deeper, Around.mark_units, units_caller] at *); (try dsimp only [ktrTop] at *); omega))
local macro_rules | `(tactic| walk_at "call ref") => `(tactic| (k_here; ks_any; k_dflt (
   (refine' call_cls ?k1 ?k2 ?k3 ?k4 ?k5 ?k6 ?_; (case k1 => k_asm); (case k2 => k_asm); (case k3 => k_asm); (case k4 => k_is); (case k5 => k_is); (case k6 => k_is); intro x' d' h' F' N' l1 l2; (try k_lt l1); (try k_lt2 l2);
    (refine' ks_code_super ?k1 ?k2 ?k3 ?k4 ?k5 ?kA ?kF ?kK ?k6 ?k7 ?k8 ?k9 ?kB ?_ ?c1 ?c2 ?c3 ?c4; (case kA => exact rfl); (case kF => exact rfl); (case kK => exact rfl); (case k1 => k_asm); (case k2 => k_asm); (case k3 => k_asm); (case k4 => k_asm); (case k5 => k_asm); (case k6 => k_is); (case k7 => k_is); (case k8 => k_room); (case k9 => exact binds_K (by k_in) rfl (by k_is) rfl rfl rfl); (case kB => exact locs rfl); (case c1 => decide); (case c2 => exact rfl); (case c3 => exact rfl); (case c4 => exact rfl); intro g' L' h' FG' F' N' B' X' T' l1; (try k_lt l1); (try dsimp only); (try k_lift B'))))))
local macro_rules | `(tactic| k_inst) => `(tactic| first
  | (refine' InstAt.of_news ?N ?h1 ?h2; (case N => k_asm); (case h1 => k_mem); (case h2 => k_mem))
  | (refine' instB ?F ?h1 ?N ?h2; (case F => k_asm); (case h1 => assumption); (case N => k_asm); (case h2 => k_mem))
  | (refine' instBB ?F ?h1 ?h2; (case F => k_asm); (case h1 => assumption); (case h2 => assumption)))
local macro_rules | `(tactic| walk_at "call builtin:getattr") => `(tactic| (k_here; (with_reducible show wpAny _ _ (call (Value.builtin _) [Value.ref _, Value.str _ _, _]) _ _ _); k_dflt (first
  | (refine' ga3_own ?F ?X ?I ?g ?hh ?ha ?hn ?hl ?hv ?hm ?nm ?_; (case I => k_inst); (case F => k_asm); (case X => k_asm); (case g => k_is); (case hh => k_is); (case ha => k_is); (case hn => k_is); (case hl => k_get); (case hv => k_handed); (case hm => k_is); (case nm => decide); k_whole)
  | (refine' ga3_no ?F ?X ?N ?I ?hA ?g ?hh ?ha ?hl ?hm ?nm ?hc ?hcn ?cp ?ms ?_; (case I => k_inst); (case F => k_asm); (case X => k_asm); (case N => k_asm); (case hA => exact rfl); (case g => k_is); (case hh => k_is); (case ha => k_is); (case hl => k_get); (case hm => k_is); (case nm => decide); (case hc => k_is); (case hcn => decide +kernel); (case cp => decide +kernel); (case ms => decide +kernel); k_whole; intro h' tk' F' N'; (try k_sweep)))))
local macro_rules | `(tactic| walk_at "call builtin:len") => `(tactic| (k_here; (with_reducible show wpAny _ _ (call (Value.builtin "len") [Value.ref _]) _ _ _); k_dflt (refine' kda_len (knd := PySem.intKind _ _) ?N ?m ?d ?lo ?fit ?_; (case N => k_asm); (case m => k_mem); (case d => assumption); (case lo => assumption); (case fit => first | omega | (simp only [List.length_append, List.length_cons, List.length_nil]; omega)); k_whole)))
local macro_rules | `(tactic| walk_at "setItem ref int") => `(tactic| (k_here; k_dflt (refine' kda_set (knd := PySem.intKind _ _) ?F ?N ?U ?d (intKind_is _ _ _ _) ?z ?_; (case F => k_asm); (case N => k_asm); (case U => k_updF); (case d => assumption); (case z => (rw [sizeLine_eq]; first | omega | (simp only [List.length_append, List.length_cons, List.length_nil]; omega))); k_whole); intro h' o' F' N' hd'; (try dsimp only at N'); (try rw [stored_new (by assumption)] at hd'); (try k_sweep)))
local macro_rules | `(tactic| walk_at "compareOp In int ref") => `(tactic| (k_here; k_dflt (first
  | (refine' mp_in0 (knd := PySem.intKind _ _) ?N ?m ?d ?lo (intKind_is _ _ _ _) ?hl ?_; (case N => k_asm); (case m => k_mem); (case d => assumption); (case lo => assumption); (case hl => assumption); k_whole)
  | (refine' mp_in1 (knd := PySem.intKind _ _) ?N ?m ?d ?lo (intKind_is _ _ _ _) ?hl ?_; (case N => k_asm); (case m => k_mem); (case d => assumption); (case lo => assumption); (case hl => assumption); k_whole))))
local macro_rules | `(tactic| walk_at "subscriptTail") => `(tactic| (k_here; (with_reducible show wpAny _ _ (subscriptTail _ _ (Value.ref _) (Value.int _ _)) _ _ _); k_dflt (refine' kda_item (knd := PySem.intKind _ _) ?N ?m ?d (intKind_is _ _ _ _) ?hl ?_ ?hs ?hg; (case N => k_asm); (case m => k_mem); (case d => assumption); (case hl => assumption); (case hs => with_unfolding_all rfl); (case hg => (intro _; with_unfolding_all rfl)); k_whole)))
local macro_rules | `(tactic| walk_at "getMethod ref") => `(tactic| (k_here; (with_reducible show wpAny _ _ (getMethod (Value.ref _) (Str.ofString "get") _) _ _ _); k_dflt (refine' kdg_method (knd := PySem.intKind _ _) ?N ?m ?d ?_; (case N => k_asm); (case m => k_mem); (case d => assumption); k_whole)))
local macro_rules | `(tactic| walk_at "call builtin:dict.get") => `(tactic| (k_here; k_dflt (refine' kdg_get1 (knd := PySem.intKind _ _) ?N ?m ?d ?lo (intKind_is _ _ _ _) _ ?hl ?_; (case N => k_asm); (case m => k_mem); (case d => assumption); (case lo => assumption); (case hl => assumption); k_whole); (try dsimp only [Option.getD])))
local macro_rules | `(tactic| walk_at "getAttr ref") => `(tactic| (k_here; k_dflt (refine' exc_getK ?F ?X ?I ?ga ?gt ?hb ?hh ?ha ?hn ?hl ?hv ?_; (case I => (first | (refine' instE ?iN ?i1 ?i2; (case iN => k_asm); (case i1 => k_mem); (case i2 => k_mem)) | (refine' instEB ?iF ?i1 ?iN ?i2; (case iF => k_asm); (case i1 => assumption); (case iN => k_asm); (case i2 => k_mem)))); (case F => k_asm); (case X => k_asm); (case ga => k_is); (case gt => k_is); (case hb => k_is); (case hh => k_is); (case ha => k_is); (case hn => k_is); (case hl => k_get); (case hv => k_handed); k_whole)))
local macro_rules | `(tactic| walk_at "setAttr ref") => `(tactic| (k_here; k_dflt (first
  | (refine' exc_setK ?F ?X ?N ?I ?hd ?hs ?hc ?hp ?hdd ?ho ?ht ?hl ?e ?U ?hz ?_; (case I => (first | (refine' instE ?iN ?i1 ?i2; (case iN => k_asm); (case i1 => k_mem); (case i2 => k_mem)) | (refine' instEB ?iF ?i1 ?iN ?i2; (case iF => k_asm); (case i1 => assumption); (case iN => k_asm); (case i2 => k_mem)))); (case F => k_asm); (case X => k_asm); (case N => k_asm); (case hd => exact rfl); (case hs => k_is); (case hc => k_is); (case hp => first | exact pass87 _ | exact pass125 _); (case hdd => exact rfl); (case ho => k_is); (case ht => k_is); (case hl => k_get); (case e => k_put); (case U => k_upd); (case hz => exact Nat.le_of_ble_eq_true rfl); k_whole; intro h' F' N'; (try k_sweep))
  | (refine' exc_set0K ?F ?X ?N ?hs ?hc ?hp ?hdd ?ho ?ht ?U ?_; (case F => k_asm); (case X => k_asm); (case N => k_asm); (case U => (intro d'; k_upd)); (case hs => k_is); (case hc => k_is); (case hp => first | exact pass87 _ | exact pass125 _); (case hdd => exact rfl); (case ho => k_is); (case ht => k_is); k_whole; intro d' h' F' N' l1; (try k_lt l1); (try k_sweep)))))
local macro_rules | `(tactic| walk_at "call ref") => `(tactic| (k_here; k_dflt (refine' exc_callK ?F ?X ?N ?hC ?a ?b ?c ?d ?e ?f ?g ?hr ?_; (case F => k_asm); (case X => k_asm); (case N => k_asm); (case hC => k_is); (case a => decide +kernel); (case b => decide +kernel); (case c => decide +kernel); (case d => k_is); (case e => k_is); (case f => k_is); (case g => k_is); (case hr => exact Nat.le_of_ble_eq_true rfl); k_whole; intro x' t' h' F' N' l1 l2; (try k_lt l1); (try k_lt2 l2); (try k_sweep); k_enter)))
local macro_rules | `(tactic| walk_at "call builtin:getattr") => `(tactic| (k_here; (with_reducible show wpAny _ _ (call (Value.builtin _) [Value.none, Value.str _ _, _]) _ _ _); k_dflt (refine' ga3_noneK ?F ?N ?hA ?nm ?hm ?hz ?_; (case F => k_asm); (case N => k_asm); (case hA => exact rfl); (case nm => decide); (case hm => exact am_miss_of_fast (by kernel_rfl)); (case hz => (rw [sizeLine_eq]; decide)); k_whole; intro h' tk' F' N'; (try k_sweep))))
local macro_rules | `(tactic| walk_at "call builtin:getattr") => `(tactic| (k_here; (with_reducible show wpAny _ _ (call (Value.builtin _) [Value.ref _, Value.str (Str.ofString "name") _, _]) _ _ _); k_dflt (refine' ga_nameK ?F ?X ?N ?e ?d ?_; (case F => k_asm); (case X => k_asm); (case N => k_asm); (case e => assumption); (case d => (first | assumption | (repeat (first | assumption | refine List.Mem.tail _ ?_)))); k_whole; intro nm' tk')))
local macro_rules | `(tactic| walk_at "setAttr ref") => `(tactic| (k_here; (with_reducible show wpAny _ _ (setAttr (Value.ref _) (Str.ofString "expr") _) _ _ _); k_dflt (refine' er_set_expr ?F ?X ?N ?I ?hd ?U ?_; (case I => (first | (refine' instE ?iN ?i1 ?i2; (case iN => k_asm); (case i1 => k_mem); (case i2 => k_mem)) | (refine' instEB ?iF ?i1 ?iN ?i2; (case iF => k_asm); (case i1 => assumption); (case iN => k_asm); (case i2 => k_mem)))); (case F => k_asm); (case X => k_asm); (case N => k_asm); (case hd => exact rfl); (case U => k_upd); k_whole; intro h' F' N'; (try k_sweep))))
local macro_rules | `(tactic| walk_at "setAttr ref") => `(tactic| (k_here; (with_reducible show wpAny _ _ (setAttr (Value.ref _) (Str.ofString "pos") _) _ _ _); k_dflt (refine' er_set_pos ?F ?X ?N ?I ?hd ?U ?_; (case I => (first | (refine' instE ?iN ?i1 ?i2; (case iN => k_asm); (case i1 => k_mem); (case i2 => k_mem)) | (refine' instEB ?iF ?i1 ?iN ?i2; (case iF => k_asm); (case i1 => assumption); (case iN => k_asm); (case i2 => k_mem)))); (case F => k_asm); (case X => k_asm); (case N => k_asm); (case hd => exact rfl); (case U => k_upd); k_whole; intro h' F' N'; (try k_sweep))))
local macro_rules | `(tactic| k_all) => `(tactic| first | (refine ?_; assumption) | exact allLt_at (by assumption) | exact allLt_lt (by assumption) (ltN (by (try dsimp only); omega)))
local macro_rules | `(tactic| k_lt $h:ident) => `(tactic| (replace $h := allLt_of $h; (simp only [AllLt, and_true] at $h:ident); (repeat (refine And.elim ?_ $h; clear $h; intro _ $h))))
local macro_rules | `(tactic| walk_at "exec Raise some none") => `(tactic| (k_here; (with_reducible show wpAny _ _ (exec (Stmt.Raise (some (Expr.Name _ _)) none _) _) _ _ _); k_dflt (refine' raise_var ?F ?X ?N ?hC ?hb ?hh ?hv ?he ?hk ?hl ?hd ?_; (case F => k_asm); (case X => k_asm); (case N => k_asm); (case hv => exact rfl); (case he => k_mem); (case hC => k_is); (case hb => decide +kernel); (case hh => exact rfl); (case hk => exact rfl); (case hl => exact rfl); (case hd => decide); k_whole)))
local macro_rules | `(tactic| k_get) => `(tactic| (refine ?_; assumption))
local macro_rules | `(tactic| walk_at "call ref") => `(tactic| (k_here; (with_reducible show wpAny _ _ (call (Value.ref 297) _ _) _ _ _); (refine Stop.go ?_)))
theorem w_match {w : World} {dp un : Nat} {gd : Option (List Code)} {cn : Str} {sn : List (Str × NameKind)} {sg sc : Bool} {sm : List (Str × Const)} {a : Addr} {ccd : Value} {cl : List (Str × Addr)} {outer : List Env} {A₀ : Around} {base h₀ : Heap} {L : Addr} {m : Str → Option Value} {s : Shared}
  {p : Program} {loose : List Str} {mean : ExcName → Option Value} {mg mb : Str → Option Value} {Q E : Value → Shared → Prop}
  (B : Below A₀ base outer h₀) (F : Fr h₀ L s.heap m) (X : (hd.heap_39 w.params).In h₀) (T : Top p loose mean mg mb h₀)
  (hd : dp + 20 < recursionLimit) (hu : un + 160 < cLine)
  {c : Ctx} {D : Ex → Obj} {rest : List (Addr × Obj)} {k : Nat} {tp : Tok} (Fi : c.Fine) (hk : k ≤ c.n)
  (RS : RSt c D (Kn base rest)) (hj : ∀ e, (c.its e).length ≤ 99) (hDR : ∃ es n, D .R = dictOf es n ∧ getL (Str.ofString "match_core") es = some none)
  (N : News h₀ L s.heap (Md c D ++ rest)) (dj : ∀ p ∈ Md c D, ∀ q ∈ rest, p.1 ≠ q.1) (hd3 : dp + 200 < recursionLimit) (hu3 : un + 1500 < cLine)
  (ok : ∀ cache err derr at_ f D' rest' nd h' tk', 0 < (reach c.p c.q c.r (c.n - k)).1 → Fr h₀ L h' m → News h₀ L h' (Md c D' ++ rest') → (∀ p ∈ Md c D', ∀ q ∈ rest', p.1 ≠ q.1) → (∀ p ∈ rest, p ∈ rest') → RSt ((c.begin cache err derr at_).later f) D' (Kn base rest') →
    (∀ e, (f e).2.2.1.length ≤ (c.its e).length + 1) → RNode (Mem (Md c D' ++ rest')) (c.begin cache err derr at_) nd (k : Int) ((k : Int) + ((reach c.p c.q c.r (c.n - k)).1 : Int)) (reach c.p c.q c.r (c.n - k)).2 → Q (.ref nd) ⟨h', s.gens, s.drawn, tk', s.os⟩)
  (bad : ∀ cache err derr at_ f D' rest' t g h' tk', (reach c.p c.q c.r (c.n - k)).1 = 0 → Fr h₀ L g m → g.UpToSlots h' → RaisedS base g (envX cn ⟨.function, sn, sg, sc, sm⟩ L a ccd cl :: outer) err (.ref 87) t [c.text] (Md c D' ++ rest') h' → (∀ p ∈ Md c D', ∀ q ∈ rest', p.1 ≠ q.1) → (∀ p ∈ rest, p ∈ rest') →
    RSt ((c.begin cache err derr at_).later f) D' (Kn base rest') → (∀ e, (f e).2.2.1.length ≤ (c.its e).length + 1) → E (.ref err) ⟨h', s.gens, s.drawn, tk', s.os⟩)
  : wpAny (model PySem.Challenge.rw_vj0018_01.row.prog w) (ktrTop dp un gd cn ⟨.function, sn, sg, sc, sm⟩ L a ccd cl outer) (call (.ref 290) [.ref (c.ad .R), c.text] [(Str.ofString "pos", .int (k : Int) tp)]) Q E s := by
  refine wpAny_call ?_
  k_dflt (refine' code_defR (hid := Md c D) (rest := rest) ?k1 ?k2 ?k3 ?k4 ?k5 ?kA ?kF ?kK ?k6 ?k7 ?k8 ?k9 ?kB ?dj ?_ ?c2 ?c3 ?c4 ?c5; (case kA => exact rfl); (case kF => exact rfl); (case kK => exact rfl); (case k1 => exact B); (case k2 => exact F); (case k3 => exact X); (case k4 => exact N); (case k5 => exact T); (case k6 => k_is); (case k7 => k_is); (case k8 => k_room); (case k9 => first | exact BindsTo.of_eq rfl | exact binds_K (by k_in) rfl (by k_is) rfl rfl rfl); (case c5 => decide); (case kB => exact locs rfl); (case dj => exact dj); (case c2 => exact rfl); (case c3 => exact rfl); (case c4 => exact rfl); k_whole; intro g' L' h' FG' F' N' R' LT' B' X' T' st'; (try dsimp only); (try k_fold))
  have stb0 := B.stays
  have N0 := N
  have hx' : g'.get? (c.ad .R) = some (oneObj (c.dd .R) c.tR (c.it .R) (.str (Str.ofString "s") (c.nt .R))) := ((RS.imm .R).at (fun _ _ x => st' _ _ (stb0 _ _ x)) R')
  have RS' : RSt c D (Kn g' []) := RS.mono fun _ _ x => .inl (x.at (fun _ _ x => st' _ _ (stb0 _ _ x)) R')
  obtain ⟨es, nR, hDR, hgR⟩ := hDR
  unfold Md at N'
  rw [hDR] at N'
  have n16 := Fi.n16
  have hrr := rest_ok B N
  clear B F T
  k_steps
  refine Stop.mk ?_
  k_dflt (refine' rule_go Fi hk ?B ?F ?X ?T ?hd ?hu ?N ?r0)
  case B => k_asm
  case F => k_asm
  case X => k_asm
  case T => k_asm
  case N => k_asm
  case hd => ((try simp only [depth_mark, depth_deeper, depth_under_make, depth_under_kw, depth_in1]); (try dsimp only [ktrTop]); omega)
  case hu => ((try simp only [units_in1, units_deeper, Around.mark_units]); (try dsimp only [ktrTop]); omega)
  case r0 =>
    refine ⟨_, _, _ :: _ :: Md c D, [_, _], MSt.zero, 0, mem_go hDR, ?dj, start_G RS' hj ?l1 ?l2 ?l3 ?lo, start_I RS' ?oC ?eR, by omega, ⟨(fun j v h => nomatch h), (fun j v h => nomatch h)⟩, ?rr⟩
    case dj => (unfold Md; simp only [List.forall_mem_cons, List.not_mem_nil, false_implies, implies_true, and_true]; repeat' (first | (refine And.intro ?_ ?_) | k_ne))
    case l1 => (unfold Md; simp only [List.forall_mem_cons, List.not_mem_nil, false_implies, implies_true, and_true]; repeat' (first | (refine And.intro ?_ ?_) | (refine ltN ?_; omega)))
    case l2 => (refine ltN ?_; omega)
    case l3 => (unfold Md; simp only [List.forall_mem_cons, List.not_mem_nil, false_implies, implies_true, and_true]; repeat' (first | (refine And.intro ?_ ?_) | k_ne))
    case lo => assumption
    case oC => assumption
    case eR => exact ⟨_, _, _, _, _, _, _, _, _, _, _, rfl, by omega, by omega, .inl rfl⟩
    case rr =>
      intro r new σ' h5 tk5 Bd5 F5 N5 dj5 X5 I5 R5
      obtain ⟨ER5, mE, hE⟩ := I5.er
      obtain ⟨h1, h2, h3, k1, k2, k3, tx, epos, te, ev, ne, rfl, he1, he2, hev⟩ := hE
      have dlt := dlt_of I5 (ltN (by omega)) (ltN (by omega)) (ltN (by omega)) (ltN (by omega)) (ltN (by omega))
      have N5' : News g' L' h5 (new ++ [_, _]) ∧ True := ⟨N5, trivial⟩
      have F5' : Fr g' L' h5 _ ∧ True := ⟨F5, trivial⟩
      rcases R5 with ⟨rfl, hno⟩ | ⟨h0, nd, rfl, hq, hR⟩
      · have N6 := News.sub N5 (dupE mE)
        have q1 := (of_two dj5).1
        have q2 := (of_two dj5).2
        clear N5
        k_steps
        rename News g' _ _ _ => N8
        rename Fr g' _ _ _ => F8
        refine leave_raiseI (rest := rest) B' F8 N8 (List.forall_mem_cons.mpr ⟨q1 _ mE, q1⟩) (List.forall_mem_cons.mpr ⟨q2 _ mE, q2⟩) (fun q hq => ⟨R' q hq, hrr _ rfl q hq⟩) ?_ rfl
        intro h9 R9 U9
        obtain ⟨D', f, rest', b1, b2, b3, b4, b5⟩ := match_bad RS N0 R' F5'.1 N5'.1 B'.stays (fun q hq => fresh_of_stays stb0 (N0 q (List.mem_append_right _ hq)).2.2) I5 dlt R9
        exact bad _ _ _ _ f D' rest' _ _ h9 _ hno (Fr.hide FG' N0) U9 b1 b2 b3 b4 b5
      · k_steps
        rename News h₀ _ _ _ => N9
        rename News g' _ _ _ => Ng
        rename Fr h₀ _ _ _ => F9
        rename Heap.StaysIn g' _ => st9
        obtain ⟨D', f, rest', b1, b2, b3, b4, b5, b6⟩ := match_ok stb0 RS N0 R' st9 N9 Ng dj5 I5 dlt
        exact ok _ _ _ _ f D' rest' nd _ _ h0 F9 b1 b2 b3 b4 b5 (hR.ext (Ext.of_sub b6).mem)
end Mine
end
section
open PySem PySem.W PyProof.Rows PyProof.V PySem.Calls PySem.Spec PySem.SeqAt
set_option Elab.async false
set_option maxRecDepth 100000
set_option maxHeartbeats 1000000
namespace Mine
/-- values that are pairs of ints -/
inductive Pairs (kn : Addr → Obj → Prop) : List Value → List (Int × Int) → Prop
  | nil : Pairs kn [] []
  | cons {b : Addr} {x y : Int} {t1 t2 : Tok} {vs : List Value} {ps : List (Int × Int)} : kn b (tupObj #[.int x t1, .int y t2]) → Pairs kn vs ps → Pairs kn (.ref b :: vs) ((x, y) :: ps)
theorem Pairs.map {kn kn' : Addr → Obj → Prop} (k : ∀ a o, kn a o → kn' a o) {vs : List Value} {ps : List (Int × Int)} (h : Pairs kn vs ps) : Pairs kn' vs ps := by
  induction h with
  | nil => exact .nil
  | cons a _ ih => exact .cons (k _ _ a) ih
theorem Pairs.snoc {kn : Addr → Obj → Prop} {vs : List Value} {ps : List (Int × Int)} {b : Addr} {x y : Int} {t1 t2 : Tok} (h : Pairs kn vs ps) (e : kn b (tupObj #[.int x t1, .int y t2])) : Pairs kn (vs ++ [.ref b]) (ps ++ [(x, y)]) := by
  induction h with
  | nil => exact .cons e .nil
  | cons a _ ih => exact .cons a ih
theorem Pairs.length {kn : Addr → Obj → Prop} {vs : List Value} {ps : List (Int × Int)} (h : Pairs kn vs ps) : vs.length = ps.length := by
  induction h with
  | nil => rfl
  | cons a _ ih => simp [ih]
theorem Pairs.at {kn : Addr → Obj → Prop} {vs : List Value} {ps : List (Int × Int)} (h : Pairs kn vs ps) (j : Nat) (hj : j < ps.length) : ∃ b t1 t2, vs[j]? = some (.ref b) ∧ kn b (tupObj #[.int ps[j].1 t1, .int ps[j].2 t2]) := by
  induction h generalizing j with
  | nil => exact absurd hj (Nat.not_lt_zero _)
  | cons a _ ih =>
    cases j with
    | zero => exact ⟨_, _, _, rfl, a⟩
    | succ j => simpa using ih j (by simpa using hj)
theorem Pairs.atm {kn : Addr → Obj → Prop} {vs : List Value} {n : Nat} {f : Nat → Int × Int} (h : Pairs kn vs ((List.range n).map f)) (j : Nat) (hj : j < n) : ∃ b t1 t2, vs[j]? = some (.ref b) ∧ kn b (tupObj #[.int (f j).1 t1, .int (f j).2 t2]) := by
  obtain ⟨b, t1, t2, a, k⟩ := h.at j (by simpa using hj)
  refine ⟨b, t1, t2, a, ?_⟩
  simpa using k
def pairD (ps : List (Int × Int)) : List PyData := ps.map fun p => .tuple [.int p.1, .int p.2]
theorem reads_pairs {h : Heap} {vs : List Value} {ps : List (Int × Int)} (k : Pairs (fun a o => h.get? a = some o) vs ps) : ReadsAll h vs (pairD ps) [] := by
  induction k with
  | nil => exact .nil
  | cons e _ ih =>
    refine ReadsAll.cons (as := []) (Reads.tuple e rfl rfl ?_) ih
    exact ReadsAll.cons (as := []) (bs := []) (Reads.int _ _) (ReadsAll.cons (as := []) (bs := []) (Reads.int _ _) .nil)
theorem canLay_pairs : ∀ ps : List (Int × Int), PyData.canLayAll0 (pairD ps) = true
  | [] => by simp [pairD, PyData.canLayAll0]
  | p :: r => by
    have := canLay_pairs r
    unfold pairD at this
    simp [pairD, PyData.canLayAll0, PyData.canLay0, this]
theorem depth_pairs : ∀ ps : List (Int × Int), PyData.depthAll (pairD ps) ≤ 3
  | [] => by simp [pairD, PyData.depthAll]
  | p :: r => by
    have := depth_pairs r
    unfold pairD at this
    simp only [pairD, List.map_cons, PyData.depthAll, PyData.depth]
    omega
theorem shaped_pairs (ps : List (Int × Int)) : shaped (.list (pairD ps)) = true := by
  have h1 := depth_pairs ps
  have h2 : PyData.depth (.list (pairD ps)) ≤ 64 := by simp only [PyData.depth]; omega
  show (PyData.canLay0 (.list (pairD ps)) && decide (PyData.depth (.list (pairD ps)) ≤ 64)) = true
  rw [Bool.and_eq_true]
  exact ⟨by simp only [PyData.canLay0]; exact canLay_pairs ps, decide_eq_true h2⟩
theorem noMix_pairs : ∀ ps qs : List (Int × Int), noMixAll (pairD ps) (pairD qs) = true
  | [], [] => by simp [pairD, noMixAll]
  | [], _ :: _ => by simp [pairD, noMixAll]
  | _ :: _, [] => by simp [pairD, noMixAll]
  | _ :: r, _ :: q => by
    have := noMix_pairs r q
    unfold pairD at this
    simp [pairD, noMixAll, noMix, this]
theorem same_pairs_self : ∀ ps : List (Int × Int), PySem.Spec.sameAll (pairD ps) (pairD ps) = true
  | [] => by simp [pairD, PySem.Spec.sameAll]
  | _ :: r => by
    have := same_pairs_self r
    unfold pairD at this
    simp [pairD, PySem.Spec.sameAll, PySem.Spec.same, this]
theorem ne_pairs {prog : Program} {w : World} {A : Around} {E : Value → Shared → Prop} {s : Shared} {a b : Addr} {vs us : List Value} {ps : List (Int × Int)} {oa ob : Obj} {na nb : Nat} {Q : Value → Shared → Prop} (ha : s.heap.get? a = some oa) (ca : oa.cls = .type "list") (da : oa.data = .seq vs.toArray na) (ka : Pairs (fun a o => s.heap.get? a = some o) vs ps)
    (hb : s.heap.get? b = some ob) (cb : ob.cls = .type "list") (db : ob.data = .seq us.toArray nb) (kb : Pairs (fun a o => s.heap.get? a = some o) us ps) (hu : A.units + 64 < cLine) (h : Q (.bool false) s) : wpAny (model prog w) A (compareOp .NotEq (.ref a) (.ref b)) Q E s :=
  ne_dataH_same (Reads.list ha ca da (by simpa using reads_pairs ka)) (Reads.list hb cb db (by simpa using reads_pairs kb)) (shaped_pairs ps) (shaped_pairs ps) hu (by simp only [noMix]; exact noMix_pairs ps ps) (by simp only [PySem.Spec.same]; rw [same_pairs_self]; exact h)
section
variable {prog : Program} {w : World} {A : Around} {h₀ : Heap} {L : Addr} {m : Str → Option Value} {env : Env} {elt : Expr} {x : Str} {scope : Scope} {cl : List (Str × Addr)} {s : Shared} {S : List (Addr × Obj) → Prop} {Fin : List Value → List (Addr × Obj) → Prop} {cells rest : List (Addr × Obj)}
/-- a list of pairs, made over a range -/
theorem pairs_range {n : Nat} {a : Int} (g1 g2 : Int → Int)
    (turn : ∀ k t I oI C oC D m₂ ys h tk ri (E' : Value → Shared → Prop), a ≤ k → k < a + (n : Int) → (∀ p ∈ rest, p ∈ ri) → LCg.NsObj oC m₂ → m₂ x = some (.int k t) → Fr h₀ L h m → News h₀ L h ((I, oI) :: (C, oC) :: (D, LCg.lst ys) :: (cells ++ ri)) → LCg.Off3 I C D (cells ++ ri) → ((@Ne Nat I C) ∧ (@Ne Nat I D) ∧ (@Ne Nat C D)) →
      wpAny (model prog w) A (eval elt (compEnvC scope cl C env)) (fun y s₂ => Stop (LCg.CompEnd h₀ L m { s with heap := h, toks := tk } I oI C oC D (LCg.lst ys) S (fun y news' => ∃ b t1 t2, y = .ref b ∧ news' = cells ++ ((b, tupObj #[.int (g1 k) t1, .int (g2 k) t2]) :: ri)) y s₂)) E' { s with heap := h, toks := tk })
    (fin : ∀ ys ri, (∀ p ∈ rest, p ∈ ri) → Pairs (Mem ri) ys ((List.range n).map fun (i : Nat) => (g1 (a + i), g2 (a + i))) → Stop (Fin ys (cells ++ ri))) :
    LCg.CompRest prog w A h₀ L m env elt x scope cl s S (fun i v => ∃ t, v = .int (a + (i : Int)) t) Fin n 0 [] (cells ++ rest) := by
  have key : ∀ (j i : Nat) (ys : List Value) (ri : List (Addr × Obj)), i + j = n → (∀ p ∈ rest, p ∈ ri) → Pairs (Mem ri) ys ((List.range i).map fun (i : Nat) => (g1 (a + i), g2 (a + i))) → LCg.CompRest prog w A h₀ L m env elt x scope cl s S (fun i v => ∃ t, v = .int (a + (i : Int)) t) Fin j i ys (cells ++ ri) := by
    intro j
    induction j with
    | zero =>
      intro i ys ri hi hr hy
      have e : i = n := by omega
      subst e
      exact LCg.CompRest.zero (fin ys ri hr hy).go
    | succ j ih =>
      intro i ys ri hi hr hy
      refine LCg.CompRest.succ ?_
      intro v I oI C oC D m₂ h tk E' hv hC hx F N off ne
      obtain ⟨t, rfl⟩ := hv
      refine wpAny_mono (turn _ t I oI C oC D m₂ ys h tk ri E' (by omega) (by omega) hr hC hx F N off ne) (fun y s₂ hq => ?_) fun _ _ e => e
      obtain ⟨h', tk', nw, e, F', N', off', hS, b, t1, t2, rfl, rfl⟩ := hq.go
      refine ⟨h', tk', _, e, F', N', off', hS, ih (i + 1) _ _ (by omega) (fun p hp => .tail _ (hr p hp)) ?_⟩
      rw [List.range_succ, List.map_append]
      exact (hy.map fun _ _ z => .tail _ z).snoc (.head _)
  exact key n 0 [] rest (by omega) (fun _ h => h) .nil
end
section
variable {prog : Program} {w : World} {A : Around} {E : Value → Shared → Prop} {s : Shared} {env : Env} {h₀ : Heap} {x : Str} {body : List Stmt} {Q : Flow → Shared → Prop}
/-- a for over a range, by induction -/
theorem range_ind {r : Addr} {a₀ b₀ : Int} {t₀ u₀ v₀ : Tok} {n : Nat} {m₀ : Str → Option Value} {news : List (Addr × Obj)} (J : Nat → Addr → (Str → Option Value) → List (Addr × Obj) → Prop)
    (hh : A.handled = none) (hr : IsRange s.heap r a₀ b₀ 1 t₀ u₀ v₀) (hsmall : Builtin.Range.small a₀ b₀ 1 = true) (hn : Builtin.Range.rangeSize a₀ b₀ 1 = (n : Int)) (F : Fr h₀ env.locals s.heap m₀) (N : News h₀ env.locals s.heap news)
    (j0 : ∀ I : Addr, (∀ p ∈ news, p.1 < I) → J 0 I m₀ news)
    (turn : ∀ i I m nw t h tk, i < n → J i I m nw → Fr h₀ env.locals h (fun y => if y = x then some (.int (a₀ + (i : Int)) t) else m y) → News h₀ env.locals h ((I, itR (a₀ + ((i + 1 : Nat) : Int)) ((n : Int) - ((i + 1 : Nat) : Int))) :: nw) →
      wpAny (model prog w) A (execs body env) (fun f s₂ => match f with
        | .ret v => Q (.ret v) s₂
        | .brk => Q .next s₂
        | _ => Stop (∃ h' tk' m' nw', s₂ = { s with heap := h', toks := tk' } ∧ Fr h₀ env.locals h' m' ∧ News h₀ env.locals h' ((I, itR (a₀ + ((i + 1 : Nat) : Int)) ((n : Int) - ((i + 1 : Nat) : Int))) :: nw') ∧ (∀ p ∈ nw', p.1 ≠ I) ∧ J (i + 1) I m' nw')) E { s with heap := h, toks := tk })
    (done : ∀ I m nw h tk, J n I m nw → Fr h₀ env.locals h m → News h₀ env.locals h nw → Q .next { s with heap := h, toks := tk }) :
    wpAny (model prog w) A (pyIter (.ref r)) (fun it s₂ => LoopAtV prog w A h₀ env x body Q E it s₂) E s := by
  refine iter_rangeUnr hh hr hsmall hn F N fun I hI => ?_
  have J0 := j0 I hI
  have key : ∀ (k i : Nat) (m : Str → Option Value) (nw : List (Addr × Obj)), i + k = n → J i I m nw → ∀ s' : Shared, (∃ h, s' = { s with heap := h }) → RangeRest prog w A E h₀ env x body Q s' I a₀ n k i m nw := by
    intro k
    induction k with
    | zero =>
      rintro i m nw hi hJ s' ⟨hs, rfl⟩
      have e : i = n := by omega
      subst e
      exact RangeRest.zero fun h tk F N => done I m nw h tk hJ F N
    | succ k ih =>
      rintro i m nw hi hJ s' ⟨hs, rfl⟩
      refine RangeRest.succ fun t h tk F N => ?_
      refine wpAny_mono (turn i I m nw t h tk (by omega) hJ F N) (fun f s₂ p => ?_) fun _ _ e => e
      cases f with
      | ret v => exact p
      | brk => exact p
      | next =>
        obtain ⟨h', tk', m', nw', e, F', N', o, J'⟩ := p.go
        exact ⟨h', tk', m', nw', e, F', N', o, ih (i + 1) m' nw' (by omega) J' _ ⟨hs, rfl⟩⟩
      | cont =>
        obtain ⟨h', tk', m', nw', e, F', N', o, J'⟩ := p.go
        exact ⟨h', tk', m', nw', e, F', N', o, ih (i + 1) m' nw' (by omega) J' _ ⟨hs, rfl⟩⟩
  exact key n 0 m₀ news (by omega) J0 _ ⟨_, rfl⟩
end
theorem off1_mem {D : Addr} : ∀ {l : List (Addr × Obj)}, LCg.Off1 D l → ∀ p ∈ l, @Ne Nat p.1 D
  | [], _, _, h => nomatch h
  | _ :: _, x, p, h => by
    rcases List.mem_cons.mp h with rfl | h
    · exact x.1
    · exact off1_mem x.2 p h
end Mine
end
section
open PySem PySem.W PyProof.Rows PySem.Calls PySem.Spec
set_option Elab.async false
set_option maxRecDepth 100000
set_option maxHeartbeats 8000000
namespace Mine
theorem prime_reach : (fun (_ : OpenLaw) (_ : Params → Frag) => True) PySem.Challenge.rw_vj0018_01 hd.heap_39 := by
  w_top off
  k_fill
  trivial
local macro_rules | `(tactic| k_room) => `(tactic| first
  | ((try simp only [depth_mark, depth_under_make, depth_under_kw, depth_in1, depth_deeper, depth_caller]); decide)
  | ((try simp only [depth_mark, depth_under_make, depth_under_kw, depth_in1, depth_deeper, depth_caller]); (try dsimp only [ktrTop]); (simp only [recursionLimit] at *); omega))
local macro_rules | `(tactic| k_units) => `(tactic| first
  | exact Nat.le_of_ble_eq_true rfl
  | (have hcL9 := cLine_is; (try simp only [units_in1, units_deeper, Around.mark_units, units_caller] at *); (try dsimp only [ktrTop] at *); omega))
local macro_rules | `(tactic| walk_at "call ref") => `(tactic| (k_here; ks_any; k_dflt (
   (refine' call_cls ?k1 ?k2 ?k3 ?k4 ?k5 ?k6 ?_; (case k1 => k_asm); (case k2 => k_asm); (case k3 => k_asm); (case k4 => k_is); (case k5 => k_is); (case k6 => k_is); intro x' d' h' F' N' l1 l2; (try k_lt l1); (try k_lt2 l2);
    (refine' ks_code_super ?k1 ?k2 ?k3 ?k4 ?k5 ?kA ?kF ?kK ?k6 ?k7 ?k8 ?k9 ?kB ?_ ?c1 ?c2 ?c3 ?c4; (case kA => exact rfl); (case kF => exact rfl); (case kK => exact rfl); (case k1 => k_asm); (case k2 => k_asm); (case k3 => k_asm); (case k4 => k_asm); (case k5 => k_asm); (case k6 => k_is); (case k7 => k_is); (case k8 => k_room); (case k9 => exact binds_K (by k_in) rfl (by k_is) rfl rfl rfl); (case kB => exact locs rfl); (case c1 => decide); (case c2 => exact rfl); (case c3 => exact rfl); (case c4 => exact rfl); intro g' L' h' FG' F' N' B' X' T' l1; (try k_lt l1); (try dsimp only); (try k_lift B'))))))
local macro_rules | `(tactic| k_inst) => `(tactic| first
  | (refine' InstAt.of_news ?N ?h1 ?h2; (case N => k_asm); (case h1 => k_mem); (case h2 => k_mem))
  | (refine' instB ?F ?h1 ?N ?h2; (case F => k_asm); (case h1 => assumption); (case N => k_asm); (case h2 => k_mem))
  | (refine' instBB ?F ?h1 ?h2; (case F => k_asm); (case h1 => assumption); (case h2 => assumption)))
local macro_rules | `(tactic| walk_at "call builtin:getattr") => `(tactic| (k_here; (with_reducible show wpAny _ _ (call (Value.builtin _) [Value.ref _, Value.str _ _, _]) _ _ _); k_dflt (first
  | (refine' ga3_own ?F ?X ?I ?g ?hh ?ha ?hn ?hl ?hv ?hm ?nm ?_; (case I => k_inst); (case F => k_asm); (case X => k_asm); (case g => k_is); (case hh => k_is); (case ha => k_is); (case hn => k_is); (case hl => k_get); (case hv => k_handed); (case hm => k_is); (case nm => decide); k_whole)
  | (refine' ga3_no ?F ?X ?N ?I ?hA ?g ?hh ?ha ?hl ?hm ?nm ?hc ?hcn ?cp ?ms ?_; (case I => k_inst); (case F => k_asm); (case X => k_asm); (case N => k_asm); (case hA => exact rfl); (case g => k_is); (case hh => k_is); (case ha => k_is); (case hl => k_get); (case hm => k_is); (case nm => decide); (case hc => k_is); (case hcn => decide +kernel); (case cp => decide +kernel); (case ms => decide +kernel); k_whole; intro h' tk' F' N'; (try k_sweep)))))
local macro_rules | `(tactic| walk_at "call builtin:len") => `(tactic| (k_here; (with_reducible show wpAny _ _ (call (Value.builtin "len") [Value.ref _]) _ _ _); k_dflt (refine' kda_len (knd := PySem.intKind _ _) ?N ?m ?d ?lo ?fit ?_; (case N => k_asm); (case m => k_mem); (case d => assumption); (case lo => assumption); (case fit => first | omega | (simp only [List.length_append, List.length_cons, List.length_nil]; omega)); k_whole)))
local macro_rules | `(tactic| walk_at "setItem ref int") => `(tactic| (k_here; k_dflt (refine' kda_set (knd := PySem.intKind _ _) ?F ?N ?U ?d (intKind_is _ _ _ _) ?z ?_; (case F => k_asm); (case N => k_asm); (case U => k_updF); (case d => assumption); (case z => (rw [sizeLine_eq]; first | omega | (simp only [List.length_append, List.length_cons, List.length_nil]; omega))); k_whole); intro h' o' F' N' hd'; (try dsimp only at N'); (try rw [stored_new (by assumption)] at hd'); (try k_sweep)))
local macro_rules | `(tactic| walk_at "compareOp In int ref") => `(tactic| (k_here; k_dflt (first
  | (refine' mp_in0 (knd := PySem.intKind _ _) ?N ?m ?d ?lo (intKind_is _ _ _ _) ?hl ?_; (case N => k_asm); (case m => k_mem); (case d => assumption); (case lo => assumption); (case hl => assumption); k_whole)
  | (refine' mp_in1 (knd := PySem.intKind _ _) ?N ?m ?d ?lo (intKind_is _ _ _ _) ?hl ?_; (case N => k_asm); (case m => k_mem); (case d => assumption); (case lo => assumption); (case hl => assumption); k_whole))))
local macro_rules | `(tactic| walk_at "subscriptTail") => `(tactic| (k_here; (with_reducible show wpAny _ _ (subscriptTail _ _ (Value.ref _) (Value.int _ _)) _ _ _); k_dflt (refine' kda_item (knd := PySem.intKind _ _) ?N ?m ?d (intKind_is _ _ _ _) ?hl ?_ ?hs ?hg; (case N => k_asm); (case m => k_mem); (case d => assumption); (case hl => assumption); (case hs => with_unfolding_all rfl); (case hg => (intro _; with_unfolding_all rfl)); k_whole)))
local macro_rules | `(tactic| walk_at "getMethod ref") => `(tactic| (k_here; (with_reducible show wpAny _ _ (getMethod (Value.ref _) (Str.ofString "get") _) _ _ _); k_dflt (refine' kdg_method (knd := PySem.intKind _ _) ?N ?m ?d ?_; (case N => k_asm); (case m => k_mem); (case d => assumption); k_whole)))
local macro_rules | `(tactic| walk_at "call builtin:dict.get") => `(tactic| (k_here; k_dflt (refine' kdg_get1 (knd := PySem.intKind _ _) ?N ?m ?d ?lo (intKind_is _ _ _ _) _ ?hl ?_; (case N => k_asm); (case m => k_mem); (case d => assumption); (case lo => assumption); (case hl => assumption); k_whole); (try dsimp only [Option.getD])))
local macro_rules | `(tactic| walk_at "getAttr ref") => `(tactic| (k_here; k_dflt (refine' exc_getK ?F ?X ?I ?ga ?gt ?hb ?hh ?ha ?hn ?hl ?hv ?_; (case I => (first | (refine' instE ?iN ?i1 ?i2; (case iN => k_asm); (case i1 => k_mem); (case i2 => k_mem)) | (refine' instEB ?iF ?i1 ?iN ?i2; (case iF => k_asm); (case i1 => assumption); (case iN => k_asm); (case i2 => k_mem)))); (case F => k_asm); (case X => k_asm); (case ga => k_is); (case gt => k_is); (case hb => k_is); (case hh => k_is); (case ha => k_is); (case hn => k_is); (case hl => k_get); (case hv => k_handed); k_whole)))
local macro_rules | `(tactic| walk_at "setAttr ref") => `(tactic| (k_here; k_dflt (first
  | (refine' exc_setK ?F ?X ?N ?I ?hd ?hs ?hc ?hp ?hdd ?ho ?ht ?hl ?e ?U ?hz ?_; (case I => (first | (refine' instE ?iN ?i1 ?i2; (case iN => k_asm); (case i1 => k_mem); (case i2 => k_mem)) | (refine' instEB ?iF ?i1 ?iN ?i2; (case iF => k_asm); (case i1 => assumption); (case iN => k_asm); (case i2 => k_mem)))); (case F => k_asm); (case X => k_asm); (case N => k_asm); (case hd => exact rfl); (case hs => k_is); (case hc => k_is); (case hp => first | exact pass87 _ | exact pass125 _); (case hdd => exact rfl); (case ho => k_is); (case ht => k_is); (case hl => k_get); (case e => k_put); (case U => k_upd); (case hz => exact Nat.le_of_ble_eq_true rfl); k_whole; intro h' F' N'; (try k_sweep))
  | (refine' exc_set0K ?F ?X ?N ?hs ?hc ?hp ?hdd ?ho ?ht ?U ?_; (case F => k_asm); (case X => k_asm); (case N => k_asm); (case U => (intro d'; k_upd)); (case hs => k_is); (case hc => k_is); (case hp => first | exact pass87 _ | exact pass125 _); (case hdd => exact rfl); (case ho => k_is); (case ht => k_is); k_whole; intro d' h' F' N' l1; (try k_lt l1); (try k_sweep)))))
local macro_rules | `(tactic| walk_at "call ref") => `(tactic| (k_here; k_dflt (refine' exc_callK ?F ?X ?N ?hC ?a ?b ?c ?d ?e ?f ?g ?hr ?_; (case F => k_asm); (case X => k_asm); (case N => k_asm); (case hC => k_is); (case a => decide +kernel); (case b => decide +kernel); (case c => decide +kernel); (case d => k_is); (case e => k_is); (case f => k_is); (case g => k_is); (case hr => exact Nat.le_of_ble_eq_true rfl); k_whole; intro x' t' h' F' N' l1 l2; (try k_lt l1); (try k_lt2 l2); (try k_sweep); k_enter)))
local macro_rules | `(tactic| walk_at "call builtin:getattr") => `(tactic| (k_here; (with_reducible show wpAny _ _ (call (Value.builtin _) [Value.none, Value.str _ _, _]) _ _ _); k_dflt (refine' ga3_noneK ?F ?N ?hA ?nm ?hm ?hz ?_; (case F => k_asm); (case N => k_asm); (case hA => exact rfl); (case nm => decide); (case hm => exact am_miss_of_fast (by kernel_rfl)); (case hz => (rw [sizeLine_eq]; decide)); k_whole; intro h' tk' F' N'; (try k_sweep))))
local macro_rules | `(tactic| walk_at "call builtin:getattr") => `(tactic| (k_here; (with_reducible show wpAny _ _ (call (Value.builtin _) [Value.ref _, Value.str (Str.ofString "name") _, _]) _ _ _); k_dflt (refine' ga_nameK ?F ?X ?N ?e ?d ?_; (case F => k_asm); (case X => k_asm); (case N => k_asm); (case e => assumption); (case d => (first | assumption | (repeat (first | assumption | refine List.Mem.tail _ ?_)))); k_whole; intro nm' tk')))
local macro_rules | `(tactic| walk_at "setAttr ref") => `(tactic| (k_here; (with_reducible show wpAny _ _ (setAttr (Value.ref _) (Str.ofString "expr") _) _ _ _); k_dflt (refine' er_set_expr ?F ?X ?N ?I ?hd ?U ?_; (case I => (first | (refine' instE ?iN ?i1 ?i2; (case iN => k_asm); (case i1 => k_mem); (case i2 => k_mem)) | (refine' instEB ?iF ?i1 ?iN ?i2; (case iF => k_asm); (case i1 => assumption); (case iN => k_asm); (case i2 => k_mem)))); (case F => k_asm); (case X => k_asm); (case N => k_asm); (case hd => exact rfl); (case U => k_upd); k_whole; intro h' F' N'; (try k_sweep))))
local macro_rules | `(tactic| walk_at "setAttr ref") => `(tactic| (k_here; (with_reducible show wpAny _ _ (setAttr (Value.ref _) (Str.ofString "pos") _) _ _ _); k_dflt (refine' er_set_pos ?F ?X ?N ?I ?hd ?U ?_; (case I => (first | (refine' instE ?iN ?i1 ?i2; (case iN => k_asm); (case i1 => k_mem); (case i2 => k_mem)) | (refine' instEB ?iF ?i1 ?iN ?i2; (case iF => k_asm); (case i1 => assumption); (case iN => k_asm); (case i2 => k_mem)))); (case F => k_asm); (case X => k_asm); (case N => k_asm); (case hd => exact rfl); (case U => k_upd); k_whole; intro h' F' N'; (try k_sweep))))
local macro_rules | `(tactic| k_all) => `(tactic| first | (refine ?_; assumption) | exact allLt_at (by assumption) | exact allLt_lt (by assumption) (ltN (by (try dsimp only); omega)))
local macro_rules | `(tactic| k_lt $h:ident) => `(tactic| (replace $h := allLt_of $h; (simp only [AllLt, and_true] at $h:ident); (repeat (refine And.elim ?_ $h; clear $h; intro _ $h))))
local macro_rules | `(tactic| walk_at "exec For Name Call cons nil") => `(tactic| (k_here; (rename Fr _ _ _ _ => lF'); (with_unfolding_all refine' For_invVF lF' ?k1 ?k2 ?_; (case k1 => exact rfl); (case k2 => exact rfl); k_whole)))
local macro_rules | `(tactic| walk_at "pyIter ref") => `(tactic| (k_here; (refine Stop.go ?_)))
theorem reach_in {p q r i : Nat} (h1 : 1 ≤ p) (h2 : p ≤ i) (h3 : 0 < (reach p q r (i - p)).1) (h4 : q ≤ i - p - (reach p q r (i - p)).1) : reach p q r i = (p + (reach p q r (i - p)).1 + q, (reach p q r (i - p)).2 + 1) := by
  conv => lhs; unfold reach
  rw [dif_pos ⟨h1, h2⟩, if_pos ⟨h3, h4⟩]
theorem reach_r {p q r i : Nat} (h : ¬ (p ≤ i ∧ 0 < (reach p q r (i - p)).1 ∧ q ≤ i - p - (reach p q r (i - p)).1)) (h5 : r ≤ i) : reach p q r i = (r, 1) := by
  conv => lhs; unfold reach
  dsimp only
  split
  · rename_i h'
    rw [if_neg fun z => h ⟨h'.2, z⟩]
  · rfl
theorem reach_0 {p q r i : Nat} (h : ¬ (p ≤ i ∧ 0 < (reach p q r (i - p)).1 ∧ q ≤ i - p - (reach p q r (i - p)).1)) (h5 : ¬ r ≤ i) : reach p q r i = (0, 0) := by
  conv => lhs; unfold reach
  dsimp only
  split
  · rename_i h'
    rw [if_neg fun z => h ⟨h'.2, z⟩]
  · rfl
def reachZ (p q r : Nat) (i : Nat) : Int × Int := (((reach p q r i).1 : Int), ((reach p q r i).2 : Int))
theorem item_ref {prog : Program} {w : World} {A : Around} {E : Value → Shared → Prop} {s : Shared} {h₀ : Heap} {L : Addr} {news : List (Addr × Obj)} {value slice : PySem.Expr} {l : Addr} {vs : List Value} {cap : Nat} {k : Int} {u : Tok} {j : Nat} {v : Value} {Q : Value → Shared → Prop} (N : News h₀ L s.heap news) (hm : (l, listOf vs.toArray cap) ∈ news)
    (hv : vs[j]? = some v) (hj : k = (j : Int)) (hz : j < 1000) (hs : subscripted slice false (.ref l) (.int k u) = operate [.ref l, .int k u] (getItem (.ref l) (.int k u))) (h : Q v s) : wpAny (model prog w) A (subscriptTail value slice (.ref l) (.int k u)) Q E s := by
  have hl : s.heap.IsList l vs.toArray := ⟨_, (N _ hm).1, rfl, _, rfl⟩
  subst hj
  exact tail_any hl.typeIs slot_list_getitem.lookup (wpAny_getItem_list hl (by omega) (by omega) (by simpa using hv) h) hs
theorem stdm3 {m m₀ : Str → Option Value} {a b c : Str} (h : ∀ y, y ≠ a → y ≠ b → y ≠ c → m y = m₀ y) (y : Str) : m y = if y = a then m a else if y = b then m b else if y = c then m c else m₀ y := by
  by_cases h1 : y = a
  · rw [if_pos h1, h1]
  · rw [if_neg h1]
    by_cases h2 : y = b
    · rw [if_pos h2, h2]
    · rw [if_neg h2]
      by_cases h3 : y = c
      · rw [if_pos h3, h3]
      · rw [if_neg h3]; exact h y h1 h2 h3
theorem Fr.std3 {h₀ h : Heap} {L : Addr} {m m₀ : Str → Option Value} {a b c : Str} (F : Fr h₀ L h m) (hm : ∀ y, y ≠ a → y ≠ b → y ≠ c → m y = m₀ y) : Fr h₀ L h (fun y => if y = a then m a else if y = b then m b else if y = c then m c else m₀ y) := Fr.eqm F (stdm3 hm)
theorem Fr.std3a {h₀ h : Heap} {L : Addr} {m m₀ : Str → Option Value} {a b c : Str} {v : Option Value} (F : Fr h₀ L h (fun y => if y = a then v else m y)) (hm : ∀ y, y ≠ a → y ≠ b → y ≠ c → m y = m₀ y) : Fr h₀ L h (fun y => if y = a then v else if y = b then m b else if y = c then m c else m₀ y) :=
  Fr.eqm F fun y => by
    by_cases h1 : y = a
    · rw [if_pos h1, if_pos h1]
    · rw [if_neg h1, if_neg h1, stdm3 hm y, if_neg h1]
theorem rz_in {p q r i : Nat} (hp : 1 ≤ p) (hpi : p ≤ i) (h3 : 0 < (reachZ p q r (i - p)).1) (h4 : (q : Int) ≤ 0 + (i : Int) - (p : Int) - (reachZ p q r (i - p)).1) : ((p : Int) + (reachZ p q r (i - p)).1 + (q : Int), (reachZ p q r (i - p)).2 + 1) = reachZ p q r i := by
  unfold reachZ at *
  dsimp only at *
  rw [reach_in hp hpi (by omega) (by omega)]
  simp
theorem rz_r {p q r i : Nat} (h : ¬ (p ≤ i ∧ 0 < (reachZ p q r (i - p)).1 ∧ (q : Int) ≤ 0 + (i : Int) - (p : Int) - (reachZ p q r (i - p)).1)) (hq : 1 ≤ q) (h5 : (r : Int) ≤ 0 + (i : Int)) : ((r : Int), (1 : Int)) = reachZ p q r i := by
  unfold reachZ at *
  dsimp only at *
  rw [reach_r (by omega) (by omega)]
  simp
theorem rz_0 {p q r i : Nat} (h : ¬ (p ≤ i ∧ 0 < (reachZ p q r (i - p)).1 ∧ (q : Int) ≤ 0 + (i : Int) - (p : Int) - (reachZ p q r (i - p)).1)) (hq : 1 ≤ q) (h5 : ¬ (r : Int) ≤ 0 + (i : Int)) : ((0 : Int), (0 : Int)) = reachZ p q r i := by
  unfold reachZ at *
  dsimp only at *
  rw [reach_0 (by omega) (by omega)]
  simp
theorem reach_shut {g h : Heap} {L D I ra : Addr} {oT oI : Obj} {rows : List Value} {c : Nat} {M nx : List (Addr × Obj)} (N : News g L h ((D, oT) :: (I, oI) :: (ra, listOf (rows.toArray.push (.ref D)) c) :: nx)) (hM : ∀ p ∈ M, p ∈ nx) : News g L h ((I, oI) :: (ra, listOf (rows ++ [Value.ref D]).toArray c) :: (D, oT) :: M) := by
  rw [List.push_toArray] at N
  exact News.sub N (List.forall_mem_cons.mpr ⟨.tail _ (.head _), List.forall_mem_cons.mpr ⟨.tail _ (.tail _ (.head _)), List.forall_mem_cons.mpr ⟨.head _, fun p hp => .tail _ (.tail _ (.tail _ (hM p hp)))⟩⟩⟩)
theorem reach_shut2 {g h : Heap} {L D D1 I ra : Addr} {oT oI o1 : Obj} {rows : List Value} {c : Nat} {M nx : List (Addr × Obj)} (N : News g L h ((D, oT) :: (D1, o1) :: (I, oI) :: (ra, listOf (rows.toArray.push (.ref D)) c) :: nx)) (hM : ∀ p ∈ M, p ∈ nx) : News g L h ((I, oI) :: (ra, listOf (rows ++ [Value.ref D]).toArray c) :: (D, oT) :: M) := by
  rw [List.push_toArray] at N
  exact News.sub N (List.forall_mem_cons.mpr ⟨.tail _ (.tail _ (.head _)), List.forall_mem_cons.mpr ⟨.tail _ (.tail _ (.tail _ (.head _))), List.forall_mem_cons.mpr ⟨.head _, fun p hp => .tail _ (.tail _ (.tail _ (.tail _ (hM p hp))))⟩⟩⟩)
section
variable {prog : Program} {w : World} {A : Around} {E : Value → Shared → Prop} {s : Shared} {env : Env} {h₀ : Heap} {body : List Stmt} {Q : Flow → Shared → Prop}
theorem reach_ind {r ra : Addr} {b₀ : Int} {t₀ u₀ v₀ : Tok} {n p1 q1 r1 : Nat} {m₀ : Str → Option Value} {rest : List (Addr × Obj)} (F : Fr h₀ env.locals s.heap m₀) (N : News h₀ env.locals s.heap ((ra, listOf (List.toArray []) 0) :: rest)) (hlt : ∀ p ∈ rest, p.1 < ra)
    (hh : A.handled = none) (hr : IsRange s.heap r 0 b₀ 1 t₀ u₀ v₀) (hsmall : Builtin.Range.small 0 b₀ 1 = true) (hn : Builtin.Range.rangeSize 0 b₀ 1 = (n : Int))
    (turn : ∀ (i : Nat) (I : Addr) (m : Str → Option Value) (rows : List Value) (cap : Nat) (M : List (Addr × Obj)) (t : Tok) (h : Heap) (tk : Nat), i < n → (∀ y : Str, y ≠ "left" → y ≠ "inner" → y ≠ "deep" → m y = m₀ y) → Pairs (Mem M) rows ((List.range i).map (reachZ p1 q1 r1)) → @LT.lt Nat _ ra I → (∀ p ∈ M, @Ne Nat p.1 I) → (∀ p ∈ M, @Ne Nat p.1 ra) → (∀ p ∈ rest, p ∈ M) →
      Fr h₀ env.locals h (fun y => if y = "left" then some (.int (0 + (i : Int)) t) else m y) → News h₀ env.locals h ((I, itR (0 + ((i + 1 : Nat) : Int)) ((n : Int) - ((i + 1 : Nat) : Int))) :: (ra, listOf rows.toArray cap) :: M) →
      wpAny (model prog w) A (execs body env) (fun f s₂ => match f with
        | .ret v => Q (.ret v) s₂
        | .brk => Q .next s₂
        | _ => Stop (∃ h' tk' m' b x y t5 t6 cap' M', s₂ = { s with heap := h', toks := tk' } ∧ Fr h₀ env.locals h' m' ∧ News h₀ env.locals h' ((I, itR (0 + ((i + 1 : Nat) : Int)) ((n : Int) - ((i + 1 : Nat) : Int))) :: (ra, listOf (rows ++ [Value.ref b]).toArray cap') :: (b, tupObj #[.int x t5, .int y t6]) :: M') ∧
            (x, y) = reachZ p1 q1 r1 i ∧ (∀ p ∈ M, p ∈ M') ∧ (∀ p ∈ M', @Ne Nat p.1 I ∧ @Ne Nat p.1 ra) ∧ @Ne Nat b I ∧ @Ne Nat b ra ∧ (∀ z : Str, z ≠ "left" → z ≠ "inner" → z ≠ "deep" → m' z = m₀ z))) E { s with heap := h, toks := tk })
    (done : ∀ (m : Str → Option Value) (rows : List Value) (cap : Nat) (M : List (Addr × Obj)) (h : Heap) (tk : Nat), (∀ y : Str, y ≠ "left" → y ≠ "inner" → y ≠ "deep" → m y = m₀ y) → Pairs (Mem M) rows ((List.range n).map (reachZ p1 q1 r1)) → (∀ p ∈ M, @Ne Nat p.1 ra) → (∀ p ∈ rest, p ∈ M) → Fr h₀ env.locals h m → News h₀ env.locals h ((ra, listOf rows.toArray cap) :: M) → Q .next { s with heap := h, toks := tk }) :
    wpAny (model prog w) A (pyIter (.ref r)) (fun it s₂ => LoopAtV prog w A h₀ env "left" body Q E it s₂) E s := by
  refine range_ind (n := n) (fun i I m nw => ∃ rows cap M, nw = (ra, listOf (List.toArray rows) cap) :: M ∧ (∀ y : Str, y ≠ "left" → y ≠ "inner" → y ≠ "deep" → m y = m₀ y) ∧ Pairs (Mem M) rows ((List.range i).map (reachZ p1 q1 r1)) ∧ @LT.lt Nat _ ra I ∧ (∀ p ∈ M, @Ne Nat p.1 I) ∧ (∀ p ∈ M, @Ne Nat p.1 ra) ∧ (∀ p ∈ rest, p ∈ M)) hh hr hsmall hn F N ?_ ?_ ?_
  · exact fun I hI => ⟨[], 0, rest, rfl, fun _ _ _ _ => rfl, .nil, hI _ (.head _), fun p hp => Nat.ne_of_lt (hI p (.tail _ hp)), fun p hp => Nat.ne_of_lt (hlt p hp), fun _ h => h⟩
  · rintro i I m nw t h tk hi ⟨rows, cap, M, rfl, hm, hP, hI, hMI, hMr, hMs⟩ F4 N4
    refine wpAny_mono (turn i I m rows cap M t h tk hi hm hP hI hMI hMr hMs F4 N4) (fun f s₂ p => ?_) fun _ _ e => e
    have fin : Stop (∃ h' tk' m' b x y t5 t6 cap' M', s₂ = { s with heap := h', toks := tk' } ∧ Fr h₀ env.locals h' m' ∧ News h₀ env.locals h' ((I, itR (0 + ((i + 1 : Nat) : Int)) ((n : Int) - ((i + 1 : Nat) : Int))) :: (ra, listOf (rows ++ [Value.ref b]).toArray cap') :: (b, tupObj #[.int x t5, .int y t6]) :: M') ∧
            (x, y) = reachZ p1 q1 r1 i ∧ (∀ p ∈ M, p ∈ M') ∧ (∀ p ∈ M', @Ne Nat p.1 I ∧ @Ne Nat p.1 ra) ∧ @Ne Nat b I ∧ @Ne Nat b ra ∧ (∀ z : Str, z ≠ "left" → z ≠ "inner" → z ≠ "deep" → m' z = m₀ z)) →
        Stop (∃ h' tk' m' nw', s₂ = { s with heap := h', toks := tk' } ∧ Fr h₀ env.locals h' m' ∧ News h₀ env.locals h' ((I, itR (0 + ((i + 1 : Nat) : Int)) ((n : Int) - ((i + 1 : Nat) : Int))) :: nw') ∧ (∀ p ∈ nw', p.1 ≠ I) ∧
          ∃ rows cap M, nw' = (ra, listOf (List.toArray rows) cap) :: M ∧ (∀ y : Str, y ≠ "left" → y ≠ "inner" → y ≠ "deep" → m' y = m₀ y) ∧ Pairs (Mem M) rows ((List.range (i + 1)).map (reachZ p1 q1 r1)) ∧ @LT.lt Nat _ ra I ∧ (∀ p ∈ M, @Ne Nat p.1 I) ∧ (∀ p ∈ M, @Ne Nat p.1 ra) ∧ (∀ p ∈ rest, p ∈ M)) := by
      rintro ⟨h', tk', m', b, x, y, t5, t6, cap', M', e, F', N', hxy, hs, hne, hb1, hb2, hm'⟩
      refine ⟨⟨h', tk', m', _, e, F', N', ?_, rows ++ [.ref b], cap', _, rfl, hm', ?_, hI, ?_, ?_, fun p hp => .tail _ (hs p (hMs p hp))⟩⟩
      · exact List.forall_mem_cons.mpr ⟨Nat.ne_of_lt hI, List.forall_mem_cons.mpr ⟨hb1, fun p hp => (hne p hp).1⟩⟩
      · rw [List.range_succ, List.map_append]
        simp only [List.map_cons, List.map_nil]
        rw [← hxy]
        exact (hP.map fun _ _ z => .tail _ (hs _ z)).snoc (.head _)
      · exact List.forall_mem_cons.mpr ⟨hb1, fun p hp => (hne p hp).1⟩
      · exact List.forall_mem_cons.mpr ⟨hb2, fun p hp => (hne p hp).2⟩
    cases f with
    | ret v => exact p
    | brk => exact p
    | next => exact fin p
    | cont => exact fin p
  · rintro I m nw h tk ⟨rows, cap, M, rfl, hm, hP, hI, hMI, hMr, hMs⟩ F4 N4
    exact done m rows cap M h tk hm hP hMr hMs F4 N4
end
local macro_rules | `(tactic| walk_at "subscriptTail") => `(tactic| (k_here; (with_reducible show wpAny _ _ (subscriptTail _ _ (Value.ref _) (Value.int _ _)) _ _ _); k_dflt (refine' item_ref ?N ?m ?v ?j ?z ?hs ?_; (case N => k_asm); (case m => k_mem); (case v => assumption); (case j => omega); (case z => omega); (case hs => with_unfolding_all rfl); k_whole)))
local macro_rules | `(tactic| walk_at "call builtin:list.append") => `(tactic| (k_here; k_dflt (refine' append_K ?F ?N ?U ?_ ?z; (case F => k_asm); (case N => k_asm); (case U => k_upd); (case z => assumption); k_whole); intro h' F' N'; (try k_sweep)))
theorem w_reach {w : World} {dp un : Nat} {gd : Option (List Code)} {cn : Str} {sn : List (Str × NameKind)} {sg sc : Bool} {sm : List (Str × Const)} {a : Addr} {ccd : Value} {cl : List (Str × Addr)} {outer : List Env} {A₀ : Around} {base h₀ : Heap} {L : Addr} {m : Str → Option Value} {s : Shared}
  {p : Program} {loose : List Str} {mean : ExcName → Option Value} {mg mb : Str → Option Value} {Q E : Value → Shared → Prop}
  (B : Below A₀ base outer h₀) (F : Fr h₀ L s.heap m) (X : (hd.heap_39 w.params).In h₀) (T : Top p loose mean mg mb h₀)
  (hd : dp + 20 < recursionLimit) (hu : un + 160 < cLine)
  {p1 q1 r1 n1 : Nat} {t1 t2 t3 t4 : Tok} {rest : List (Addr × Obj)} (hp : 1 ≤ p1) (hq : 1 ≤ q1) (hr : 1 ≤ r1) (hn : n1 ≤ 16)
  (N : News h₀ L s.heap rest)
  (ret : ∀ ra rows cap M h' tk', Fr h₀ L h' m → News h₀ L h' ((ra, listOf (List.toArray rows) cap) :: M) → (∀ p ∈ rest, p ∈ M) → (∀ p ∈ M, @Ne Nat p.1 ra) → Pairs (Mem M) rows ((List.range (n1 + 1)).map (reachZ p1 q1 r1)) → Q (.ref ra) ⟨h', s.gens, s.drawn, tk', s.os⟩)
  : wpAny (model PySem.Challenge.rw_vj0018_01.row.prog w) (ktrTop dp un gd cn ⟨.function, sn, sg, sc, sm⟩ L a ccd cl outer) (call (.ref 495) [.int (p1 : Int) t1, .int (q1 : Int) t2, .int (r1 : Int) t3, .int (n1 : Int) t4]) Q E s := by
  refine wpAny_call ?_
  k_dflt (refine' code_defR (hid := rest) (rest := []) ?k1 ?k2 ?k3 ?k4 ?k5 ?kA ?kF ?kK ?k6 ?k7 ?k8 ?k9 ?kB ?dj ?_ ?c2 ?c3 ?c4 ?c5; (case kA => exact rfl); (case kF => exact rfl); (case kK => exact rfl); (case k1 => exact B); (case k2 => exact F); (case k3 => exact X); (case k4 => (rw [List.append_nil]; exact N)); (case k5 => exact T); (case k6 => k_is); (case k7 => k_is); (case k8 => k_room); (case k9 => exact BindsTo.of_eq rfl); (case c5 => decide); (case kB => exact locs rfl); (case dj => exact (fun _ _ _ h => nomatch h)); (case c2 => exact rfl); (case c3 => exact rfl); (case c4 => exact rfl); k_whole; intro g' L' h' FG' F' N' R' LT' B' X' T' st'; (try dsimp only); (try k_fold))
  clear N B F T
  k_steps
  refine Stop.mk ?_
  rename Fr _ _ _ _ => F3
  rename News _ _ _ _ => N3
  rename IsRange _ _ _ _ _ _ _ _ => rgX
  rename ∀ p : Addr × Obj, p ∈ rest → p.1 < _ => hlt
  refine reach_ind (n := n1 + 1) (p1 := p1) (q1 := q1) (r1 := r1) F3 N3 hlt rfl rgX (by exact small_one (by omega) (by omega) (by omega) (by omega)) (by exact rangeSize_nat _ _) ?turn ?done
  case turn =>
    intro i I m rows cap M t h tk hi hm hP hI hMI hMr hMs F4 N4
    have F5 := Fr.std3a F4 hm
    clear F4
    have hz : rows.toArray.size ≤ sizeLine := by
      have := hP.length
      rw [List.length_map, List.length_range] at this
      rw [sizeLine_eq, List.size_toArray]; omega
    by_cases hpi : p1 ≤ i
    · obtain ⟨b, t5, t6, hb, hbm⟩ := hP.atm (i - p1) (by omega)
      have N5 := dup1 N4 hbm
      simp only [List.cons_append, List.nil_append] at N5
      have hbr := hMr _ hbm
      have hbI := hMI _ hbm
      clear N4
      k_steps
      · refine Stop.mk ?_
        rename News _ _ _ _ => N6
        rename Fr _ _ _ _ => F6
        exact ⟨_, _, _, _, _, _, _, _, _, M, rfl, F6, reach_shut N6 (fun p hp => .tail _ hp), rz_in hp hpi (by assumption) (by assumption), fun _ hp => hp, fun p hp => ⟨hMI p hp, hMr p hp⟩, by k_ne, by k_ne, fun z h1 h2 h3 => by simp only [if_neg h1, if_neg h2, if_neg h3]⟩
      · refine Stop.mk ?_
        rename News _ _ _ _ => N6
        rename Fr _ _ _ _ => F6
        exact ⟨_, _, _, _, _, _, _, _, _, M, rfl, F6, reach_shut N6 (fun p hp => .tail _ hp), rz_r (by omega) hq (by omega), fun _ hp => hp, fun p hp => ⟨hMI p hp, hMr p hp⟩, by k_ne, by k_ne, fun z h1 h2 h3 => by simp only [if_neg h1, if_neg h2, if_neg h3]⟩
      · refine Stop.mk ?_
        rename News _ _ _ _ => N6
        rename Fr _ _ _ _ => F6
        exact ⟨_, _, _, _, _, _, _, _, _, M, rfl, F6, reach_shut N6 (fun p hp => .tail _ hp), rz_0 (by omega) hq (by omega), fun _ hp => hp, fun p hp => ⟨hMI p hp, hMr p hp⟩, by k_ne, by k_ne, fun z h1 h2 h3 => by simp only [if_neg h1, if_neg h2, if_neg h3]⟩
      · refine Stop.mk ?_
        rename News _ _ _ _ => N6
        rename Fr _ _ _ _ => F6
        exact ⟨_, _, _, _, _, _, _, _, _, M, rfl, F6, reach_shut N6 (fun p hp => .tail _ hp), rz_r (by omega) hq (by omega), fun _ hp => hp, fun p hp => ⟨hMI p hp, hMr p hp⟩, by k_ne, by k_ne, fun z h1 h2 h3 => by simp only [if_neg h1, if_neg h2, if_neg h3]⟩
      · refine Stop.mk ?_
        rename News _ _ _ _ => N6
        rename Fr _ _ _ _ => F6
        exact ⟨_, _, _, _, _, _, _, _, _, M, rfl, F6, reach_shut N6 (fun p hp => .tail _ hp), rz_0 (by omega) hq (by omega), fun _ hp => hp, fun p hp => ⟨hMI p hp, hMr p hp⟩, by k_ne, by k_ne, fun z h1 h2 h3 => by simp only [if_neg h1, if_neg h2, if_neg h3]⟩
    · clear F3 N3
      k_steps
      · refine Stop.mk ?_
        rename News _ _ _ _ => N6
        rename Fr _ _ _ _ => F6
        exact ⟨_, _, _, _, _, _, _, _, _, M, rfl, F6, reach_shut2 N6 (fun p hp => hp), rz_r (by omega) hq (by omega), fun _ hp => hp, fun p hp => ⟨hMI p hp, hMr p hp⟩, by k_ne, by k_ne, fun z h1 h2 h3 => by simp only [if_neg h1, if_neg h2, if_neg h3]⟩
      · refine Stop.mk ?_
        rename News _ _ _ _ => N6
        rename Fr _ _ _ _ => F6
        exact ⟨_, _, _, _, _, _, _, _, _, M, rfl, F6, reach_shut2 N6 (fun p hp => hp), rz_0 (by omega) hq (by omega), fun _ hp => hp, fun p hp => ⟨hMI p hp, hMr p hp⟩, by k_ne, by k_ne, fun z h1 h2 h3 => by simp only [if_neg h1, if_neg h2, if_neg h3]⟩
  case done =>
    intro m rows cap M h tk hm hP hMr hMs F4 N4
    have F5 := Fr.std3 F4 hm
    clear F4 F3 N3
    k_steps
    rename News h₀ _ _ _ => N9
    rename Fr h₀ _ _ _ => F9
    exact ret _ rows cap M _ _ F9 N9 hMs hMr hP
end Mine
end
section
open PySem PySem.W PyProof.Rows PySem.Calls PySem.Spec
set_option Elab.async false
set_option maxRecDepth 100000
set_option maxHeartbeats 8000000
namespace Mine
theorem prime_levels : (fun (_ : OpenLaw) (_ : Params → Frag) => True) PySem.Challenge.rw_vj0018_01 hd.heap_39 := by
  w_top off
  k_fill
  trivial
local macro_rules | `(tactic| k_room) => `(tactic| first
  | ((try simp only [depth_mark, depth_under_make, depth_under_kw, depth_in1, depth_deeper, depth_caller]); decide)
  | ((try simp only [depth_mark, depth_under_make, depth_under_kw, depth_in1, depth_deeper, depth_caller]); (try dsimp only [ktrTop]); (simp only [recursionLimit] at *); omega))
local macro_rules | `(tactic| k_units) => `(tactic| first
  | exact Nat.le_of_ble_eq_true rfl
  | (have hcL9 := cLine_is; (try simp only [units_in1, units_deeper, Around.mark_units, units_caller] at *); (try dsimp only [ktrTop] at *); omega))
local macro_rules | `(tactic| walk_at "call ref") => `(tactic| (k_here; ks_any; k_dflt (
   (refine' call_cls ?k1 ?k2 ?k3 ?k4 ?k5 ?k6 ?_; (case k1 => k_asm); (case k2 => k_asm); (case k3 => k_asm); (case k4 => k_is); (case k5 => k_is); (case k6 => k_is); intro x' d' h' F' N' l1 l2; (try k_lt l1); (try k_lt2 l2);
    (refine' ks_code_super ?k1 ?k2 ?k3 ?k4 ?k5 ?kA ?kF ?kK ?k6 ?k7 ?k8 ?k9 ?kB ?_ ?c1 ?c2 ?c3 ?c4; (case kA => exact rfl); (case kF => exact rfl); (case kK => exact rfl); (case k1 => k_asm); (case k2 => k_asm); (case k3 => k_asm); (case k4 => k_asm); (case k5 => k_asm); (case k6 => k_is); (case k7 => k_is); (case k8 => k_room); (case k9 => exact binds_K (by k_in) rfl (by k_is) rfl rfl rfl); (case kB => exact locs rfl); (case c1 => decide); (case c2 => exact rfl); (case c3 => exact rfl); (case c4 => exact rfl); intro g' L' h' FG' F' N' B' X' T' l1; (try k_lt l1); (try dsimp only); (try k_lift B'))))))
local macro_rules | `(tactic| k_inst) => `(tactic| first
  | (refine' InstAt.of_news ?N ?h1 ?h2; (case N => k_asm); (case h1 => k_mem); (case h2 => k_mem))
  | (refine' instB ?F ?h1 ?N ?h2; (case F => k_asm); (case h1 => assumption); (case N => k_asm); (case h2 => k_mem))
  | (refine' instBB ?F ?h1 ?h2; (case F => k_asm); (case h1 => assumption); (case h2 => assumption)))
local macro_rules | `(tactic| walk_at "call builtin:getattr") => `(tactic| (k_here; (with_reducible show wpAny _ _ (call (Value.builtin _) [Value.ref _, Value.str _ _, _]) _ _ _); k_dflt (first
  | (refine' ga3_own ?F ?X ?I ?g ?hh ?ha ?hn ?hl ?hv ?hm ?nm ?_; (case I => k_inst); (case F => k_asm); (case X => k_asm); (case g => k_is); (case hh => k_is); (case ha => k_is); (case hn => k_is); (case hl => k_get); (case hv => k_handed); (case hm => k_is); (case nm => decide); k_whole)
  | (refine' ga3_no ?F ?X ?N ?I ?hA ?g ?hh ?ha ?hl ?hm ?nm ?hc ?hcn ?cp ?ms ?_; (case I => k_inst); (case F => k_asm); (case X => k_asm); (case N => k_asm); (case hA => exact rfl); (case g => k_is); (case hh => k_is); (case ha => k_is); (case hl => k_get); (case hm => k_is); (case nm => decide); (case hc => k_is); (case hcn => decide +kernel); (case cp => decide +kernel); (case ms => decide +kernel); k_whole; intro h' tk' F' N'; (try k_sweep)))))
local macro_rules | `(tactic| walk_at "call builtin:len") => `(tactic| (k_here; (with_reducible show wpAny _ _ (call (Value.builtin "len") [Value.ref _]) _ _ _); k_dflt (refine' kda_len (knd := PySem.intKind _ _) ?N ?m ?d ?lo ?fit ?_; (case N => k_asm); (case m => k_mem); (case d => assumption); (case lo => assumption); (case fit => first | omega | (simp only [List.length_append, List.length_cons, List.length_nil]; omega)); k_whole)))
local macro_rules | `(tactic| walk_at "setItem ref int") => `(tactic| (k_here; k_dflt (refine' kda_set (knd := PySem.intKind _ _) ?F ?N ?U ?d (intKind_is _ _ _ _) ?z ?_; (case F => k_asm); (case N => k_asm); (case U => k_updF); (case d => assumption); (case z => (rw [sizeLine_eq]; first | omega | (simp only [List.length_append, List.length_cons, List.length_nil]; omega))); k_whole); intro h' o' F' N' hd'; (try dsimp only at N'); (try rw [stored_new (by assumption)] at hd'); (try k_sweep)))
local macro_rules | `(tactic| walk_at "compareOp In int ref") => `(tactic| (k_here; k_dflt (first
  | (refine' mp_in0 (knd := PySem.intKind _ _) ?N ?m ?d ?lo (intKind_is _ _ _ _) ?hl ?_; (case N => k_asm); (case m => k_mem); (case d => assumption); (case lo => assumption); (case hl => assumption); k_whole)
  | (refine' mp_in1 (knd := PySem.intKind _ _) ?N ?m ?d ?lo (intKind_is _ _ _ _) ?hl ?_; (case N => k_asm); (case m => k_mem); (case d => assumption); (case lo => assumption); (case hl => assumption); k_whole))))
local macro_rules | `(tactic| walk_at "subscriptTail") => `(tactic| (k_here; (with_reducible show wpAny _ _ (subscriptTail _ _ (Value.ref _) (Value.int _ _)) _ _ _); k_dflt (refine' kda_item (knd := PySem.intKind _ _) ?N ?m ?d (intKind_is _ _ _ _) ?hl ?_ ?hs ?hg; (case N => k_asm); (case m => k_mem); (case d => assumption); (case hl => assumption); (case hs => with_unfolding_all rfl); (case hg => (intro _; with_unfolding_all rfl)); k_whole)))
local macro_rules | `(tactic| walk_at "getMethod ref") => `(tactic| (k_here; (with_reducible show wpAny _ _ (getMethod (Value.ref _) (Str.ofString "get") _) _ _ _); k_dflt (refine' kdg_method (knd := PySem.intKind _ _) ?N ?m ?d ?_; (case N => k_asm); (case m => k_mem); (case d => assumption); k_whole)))
local macro_rules | `(tactic| walk_at "call builtin:dict.get") => `(tactic| (k_here; k_dflt (refine' kdg_get1 (knd := PySem.intKind _ _) ?N ?m ?d ?lo (intKind_is _ _ _ _) _ ?hl ?_; (case N => k_asm); (case m => k_mem); (case d => assumption); (case lo => assumption); (case hl => assumption); k_whole); (try dsimp only [Option.getD])))
local macro_rules | `(tactic| walk_at "getAttr ref") => `(tactic| (k_here; k_dflt (refine' exc_getK ?F ?X ?I ?ga ?gt ?hb ?hh ?ha ?hn ?hl ?hv ?_; (case I => (first | (refine' instE ?iN ?i1 ?i2; (case iN => k_asm); (case i1 => k_mem); (case i2 => k_mem)) | (refine' instEB ?iF ?i1 ?iN ?i2; (case iF => k_asm); (case i1 => assumption); (case iN => k_asm); (case i2 => k_mem)))); (case F => k_asm); (case X => k_asm); (case ga => k_is); (case gt => k_is); (case hb => k_is); (case hh => k_is); (case ha => k_is); (case hn => k_is); (case hl => k_get); (case hv => k_handed); k_whole)))
local macro_rules | `(tactic| walk_at "setAttr ref") => `(tactic| (k_here; k_dflt (first
  | (refine' exc_setK ?F ?X ?N ?I ?hd ?hs ?hc ?hp ?hdd ?ho ?ht ?hl ?e ?U ?hz ?_; (case I => (first | (refine' instE ?iN ?i1 ?i2; (case iN => k_asm); (case i1 => k_mem); (case i2 => k_mem)) | (refine' instEB ?iF ?i1 ?iN ?i2; (case iF => k_asm); (case i1 => assumption); (case iN => k_asm); (case i2 => k_mem)))); (case F => k_asm); (case X => k_asm); (case N => k_asm); (case hd => exact rfl); (case hs => k_is); (case hc => k_is); (case hp => first | exact pass87 _ | exact pass125 _); (case hdd => exact rfl); (case ho => k_is); (case ht => k_is); (case hl => k_get); (case e => k_put); (case U => k_upd); (case hz => exact Nat.le_of_ble_eq_true rfl); k_whole; intro h' F' N'; (try k_sweep))
  | (refine' exc_set0K ?F ?X ?N ?hs ?hc ?hp ?hdd ?ho ?ht ?U ?_; (case F => k_asm); (case X => k_asm); (case N => k_asm); (case U => (intro d'; k_upd)); (case hs => k_is); (case hc => k_is); (case hp => first | exact pass87 _ | exact pass125 _); (case hdd => exact rfl); (case ho => k_is); (case ht => k_is); k_whole; intro d' h' F' N' l1; (try k_lt l1); (try k_sweep)))))
local macro_rules | `(tactic| walk_at "call ref") => `(tactic| (k_here; k_dflt (refine' exc_callK ?F ?X ?N ?hC ?a ?b ?c ?d ?e ?f ?g ?hr ?_; (case F => k_asm); (case X => k_asm); (case N => k_asm); (case hC => k_is); (case a => decide +kernel); (case b => decide +kernel); (case c => decide +kernel); (case d => k_is); (case e => k_is); (case f => k_is); (case g => k_is); (case hr => exact Nat.le_of_ble_eq_true rfl); k_whole; intro x' t' h' F' N' l1 l2; (try k_lt l1); (try k_lt2 l2); (try k_sweep); k_enter)))
local macro_rules | `(tactic| walk_at "call builtin:getattr") => `(tactic| (k_here; (with_reducible show wpAny _ _ (call (Value.builtin _) [Value.none, Value.str _ _, _]) _ _ _); k_dflt (refine' ga3_noneK ?F ?N ?hA ?nm ?hm ?hz ?_; (case F => k_asm); (case N => k_asm); (case hA => exact rfl); (case nm => decide); (case hm => exact am_miss_of_fast (by kernel_rfl)); (case hz => (rw [sizeLine_eq]; decide)); k_whole; intro h' tk' F' N'; (try k_sweep))))
local macro_rules | `(tactic| walk_at "call builtin:getattr") => `(tactic| (k_here; (with_reducible show wpAny _ _ (call (Value.builtin _) [Value.ref _, Value.str (Str.ofString "name") _, _]) _ _ _); k_dflt (refine' ga_nameK ?F ?X ?N ?e ?d ?_; (case F => k_asm); (case X => k_asm); (case N => k_asm); (case e => assumption); (case d => (first | assumption | (repeat (first | assumption | refine List.Mem.tail _ ?_)))); k_whole; intro nm' tk')))
local macro_rules | `(tactic| walk_at "setAttr ref") => `(tactic| (k_here; (with_reducible show wpAny _ _ (setAttr (Value.ref _) (Str.ofString "expr") _) _ _ _); k_dflt (refine' er_set_expr ?F ?X ?N ?I ?hd ?U ?_; (case I => (first | (refine' instE ?iN ?i1 ?i2; (case iN => k_asm); (case i1 => k_mem); (case i2 => k_mem)) | (refine' instEB ?iF ?i1 ?iN ?i2; (case iF => k_asm); (case i1 => assumption); (case iN => k_asm); (case i2 => k_mem)))); (case F => k_asm); (case X => k_asm); (case N => k_asm); (case hd => exact rfl); (case U => k_upd); k_whole; intro h' F' N'; (try k_sweep))))
local macro_rules | `(tactic| walk_at "setAttr ref") => `(tactic| (k_here; (with_reducible show wpAny _ _ (setAttr (Value.ref _) (Str.ofString "pos") _) _ _ _); k_dflt (refine' er_set_pos ?F ?X ?N ?I ?hd ?U ?_; (case I => (first | (refine' instE ?iN ?i1 ?i2; (case iN => k_asm); (case i1 => k_mem); (case i2 => k_mem)) | (refine' instEB ?iF ?i1 ?iN ?i2; (case iF => k_asm); (case i1 => assumption); (case iN => k_asm); (case i2 => k_mem)))); (case F => k_asm); (case X => k_asm); (case N => k_asm); (case hd => exact rfl); (case U => k_upd); k_whole; intro h' F' N'; (try k_sweep))))
local macro_rules | `(tactic| k_all) => `(tactic| first | (refine ?_; assumption) | exact allLt_at (by assumption) | exact allLt_lt (by assumption) (ltN (by (try dsimp only); omega)))
local macro_rules | `(tactic| k_lt $h:ident) => `(tactic| (replace $h := allLt_of $h; (simp only [AllLt, and_true] at $h:ident); (repeat (refine And.elim ?_ $h; clear $h; intro _ $h))))
theorem toks_any {M : Model} {A : Around} {E : Value → Shared → Prop} {α : Type} {x : Sem α} {Q : α → Shared → Prop} {h : Heap} {g : Array GenState} {d : Drawn} {a b : Nat} {o : OsState} (k : ∀ t, wpAny M A x Q E ⟨h, g, d, t, o⟩) : wpAny M A x Q E ⟨h, g, d, a + b, o⟩ := k _
local macro_rules | `(tactic| walk_at "execs cons") => `(tactic| (k_here; (with_reducible refine toks_any ?_); intro tk))
local macro_rules | `(tactic| walk_at "execs nil") => `(tactic| (k_here; (with_reducible refine toks_any ?_); intro tk))
local macro_rules | `(tactic| walk_at "exec For Name Call cons nil") => `(tactic| (k_here; (rename Fr _ _ _ _ => lF'); (with_unfolding_all refine' For_invVF lF' ?k1 ?k2 ?_; (case k1 => exact rfl); (case k2 => exact rfl); k_whole)))
local macro_rules | `(tactic| walk_at "pyIter ref") => `(tactic| (k_here; (refine Stop.go ?_)))
theorem front6 {g h : Heap} {L : Addr} {a b y1 y2 y3 y4 y5 y6 : Addr × Obj} {M : List (Addr × Obj)} (N : News g L h (a :: b :: M)) (h1 : y1 ∈ M) (h2 : y2 ∈ M) (h3 : y3 ∈ M) (h4 : y4 ∈ M) (h5 : y5 ∈ M) (h6 : y6 ∈ M) : News g L h (a :: b :: y1 :: y2 :: y3 :: y4 :: y5 :: y6 :: M) :=
  News.sub N (List.forall_mem_cons.mpr ⟨.head _, List.forall_mem_cons.mpr ⟨.tail _ (.head _), List.forall_mem_cons.mpr ⟨.tail _ (.tail _ h1), List.forall_mem_cons.mpr ⟨.tail _ (.tail _ h2), List.forall_mem_cons.mpr ⟨.tail _ (.tail _ h3), List.forall_mem_cons.mpr ⟨.tail _ (.tail _ h4), List.forall_mem_cons.mpr ⟨.tail _ (.tail _ h5), List.forall_mem_cons.mpr ⟨.tail _ (.tail _ h6), fun p hp => .tail _ (.tail _ hp)⟩⟩⟩⟩⟩⟩⟩⟩)
theorem front4 {g h : Heap} {L : Addr} {a b y1 y2 y3 y4 : Addr × Obj} {M : List (Addr × Obj)} (N : News g L h (a :: b :: M)) (h1 : y1 ∈ M) (h2 : y2 ∈ M) (h3 : y3 ∈ M) (h4 : y4 ∈ M) : News g L h (a :: b :: y1 :: y2 :: y3 :: y4 :: M) :=
  News.sub N (List.forall_mem_cons.mpr ⟨.head _, List.forall_mem_cons.mpr ⟨.tail _ (.head _), List.forall_mem_cons.mpr ⟨.tail _ (.tail _ h1), List.forall_mem_cons.mpr ⟨.tail _ (.tail _ h2), List.forall_mem_cons.mpr ⟨.tail _ (.tail _ h3), List.forall_mem_cons.mpr ⟨.tail _ (.tail _ h4), fun p hp => .tail _ (.tail _ hp)⟩⟩⟩⟩⟩⟩)
theorem stdm5 {m m₀ : Str → Option Value} {a b c d e : Str} (h : ∀ y, y ≠ a → y ≠ b → y ≠ c → y ≠ d → y ≠ e → m y = m₀ y) (y : Str) : m y = if y = a then m a else if y = b then m b else if y = c then m c else if y = d then m d else if y = e then m e else m₀ y := by
  by_cases h1 : y = a
  · rw [if_pos h1, h1]
  · rw [if_neg h1]
    by_cases h2 : y = b
    · rw [if_pos h2, h2]
    · rw [if_neg h2]
      by_cases h3 : y = c
      · rw [if_pos h3, h3]
      · rw [if_neg h3]
        by_cases h4 : y = d
        · rw [if_pos h4, h4]
        · rw [if_neg h4]
          by_cases h5 : y = e
          · rw [if_pos h5, h5]
          · rw [if_neg h5]; exact h y h1 h2 h3 h4 h5
theorem Fr.std5a {h₀ h : Heap} {L : Addr} {m m₀ : Str → Option Value} {a b c d e : Str} {v vd : Option Value} (F : Fr h₀ L h (fun y => if y = a then v else m y)) (hm : ∀ y, y ≠ a → y ≠ b → y ≠ c → y ≠ d → y ≠ e → m y = m₀ y) (hd : m d = vd) : Fr h₀ L h (fun y => if y = a then v else if y = b then m b else if y = c then m c else if y = d then vd else if y = e then m e else m₀ y) :=
  Fr.eqm F fun y => by
    subst hd
    by_cases h1 : y = a
    · rw [if_pos h1, if_pos h1]
    · rw [if_neg h1, if_neg h1, stdm5 hm y, if_neg h1]
def lvl (st en : Int) (p q : Nat) (k : Nat) : Int × Int := (st + (k : Int) * (p : Int), en - (k : Int) * (q : Int))
theorem swap3 {g h : Heap} {L : Addr} {a b c : Addr × Obj} {nx M : List (Addr × Obj)} (N : News g L h (a :: b :: c :: nx)) (hM : ∀ p ∈ M, p ∈ nx) : News g L h (b :: c :: a :: M) :=
  News.sub N (List.forall_mem_cons.mpr ⟨.tail _ (.head _), List.forall_mem_cons.mpr ⟨.tail _ (.tail _ (.head _)), List.forall_mem_cons.mpr ⟨.head _, fun p hp => .tail _ (.tail _ (.tail _ (hM p hp)))⟩⟩⟩)
theorem swap2 {g h : Heap} {L : Addr} {a b c : Addr × Obj} {nx M : List (Addr × Obj)} (N : News g L h (a :: b :: c :: nx)) (hM : ∀ p ∈ M, p ∈ nx) : News g L h (c :: a :: M) :=
  News.sub N (List.forall_mem_cons.mpr ⟨.tail _ (.tail _ (.head _)), List.forall_mem_cons.mpr ⟨.head _, fun p hp => .tail _ (.tail _ (.tail _ (hM p hp)))⟩⟩)
theorem lvl_succ {st en st1 en1 st2 en2 : Int} {p q i : Nat} (h : (st1, en1) = lvl st en p q i) (h1 : st2 = st1 + (p : Int)) (h2 : en1 = en2 + (q : Int)) : (st2, en2) = lvl st en p q (i + 1) := by
  unfold lvl at *
  injection h with a b
  have e1 : ((i + 1 : Nat) : Int) * (p : Int) = (i : Int) * p + p := by rw [Int.natCast_add, Int.add_mul]; simp
  have e2 : ((i + 1 : Nat) : Int) * (q : Int) = (i : Int) * q + q := by rw [Int.natCast_add, Int.add_mul]; simp
  rw [e1, e2]
  congr 1
  · omega
  · omega
theorem lv_pairs {M : List (Addr × Obj)} {rows : List Value} {i p q : Nat} {D : Addr} {st en st1 en1 : Int} {t5 t6 : Tok} (hP : Pairs (Mem M) rows ((List.range i).map (lvl st en p q))) (h : (st1, en1) = lvl st en p q i) : Pairs (Mem ((D, tupObj #[.int st1 t5, .int en1 t6]) :: M)) (rows ++ [Value.ref D]) ((List.range (i + 1)).map (lvl st en p q)) := by
  rw [List.range_succ, List.map_append]
  simp only [List.map_cons, List.map_nil]
  rw [← h]
  exact (hP.map fun _ _ z => .tail _ z).snoc (.head _)
theorem no1 {a b : Int} {n : Nat} (h : a - b ≠ (n : Int)) (e : a = b + (n : Int)) : False := h (by omega)
theorem idx1 {i d e : Nat} (h : i + (d + 1) = e) : i + 1 + d = e := by omega
theorem item_last {prog : Program} {w : World} {A : Around} {E : Value → Shared → Prop} {s : Shared} {h₀ : Heap} {L : Addr} {news : List (Addr × Obj)} {value slice : PySem.Expr} {l : Addr} {vs : List Value} {cap : Nat} {k : Int} {u : Tok} {j : Nat} {v : Value} {Q : Value → Shared → Prop} (N : News h₀ L s.heap news) (hm : (l, listOf (List.toArray (vs ++ [v])) cap) ∈ news)
    (hv : vs.length = j) (hj : k = (j : Int)) (hz : j < 1000) (hs : subscripted slice false (.ref l) (.int k u) = operate [.ref l, .int k u] (getItem (.ref l) (.int k u))) (h : Q v s) : wpAny (model prog w) A (subscriptTail value slice (.ref l) (.int k u)) Q E s := by
  have hl : s.heap.IsList l (List.toArray (vs ++ [v])) := ⟨_, (N _ hm).1, rfl, _, rfl⟩
  subst hj
  exact tail_any hl.typeIs slot_list_getitem.lookup (wpAny_getItem_list hl (by omega) (by omega) (by subst hv; simp) h) hs
section
variable {prog : Program} {w : World} {A : Around} {E : Value → Shared → Prop} {s : Shared} {env : Env} {h₀ : Heap} {body : List Stmt} {Q : Flow → Shared → Prop}
theorem levels_ind {r fa nd : Addr} {b₀ : Int} {t₀ u₀ v₀ : Tok} {n d : Nat} {c : Ctx} {st en : Int} {m₀ : Str → Option Value} {rest : List (Addr × Obj)} (F : Fr h₀ env.locals s.heap m₀) (N : News h₀ env.locals s.heap ((fa, listOf (List.toArray []) 0) :: rest)) (hlt : ∀ p ∈ rest, p.1 < fa)
    (hR : RNode (Mem rest) c nd st en d) (hdn : d < n) (hm0 : m₀ "node" = some (.ref nd))
    (hh : A.handled = none) (hr : IsRange s.heap r 0 b₀ 1 t₀ u₀ v₀) (hsmall : Builtin.Range.small 0 b₀ 1 = true) (hn : Builtin.Range.rangeSize 0 b₀ 1 = (n : Int))
    (turn : ∀ (i : Nat) (I : Addr) (m : Str → Option Value) (rows : List Value) (cap : Nat) (M : List (Addr × Obj)) (t : Tok) (h : Heap) (tk : Nat) (ndi : Addr) (st1 en1 : Int) (d1 : Nat), i + d1 = d → i < n → (∀ y : Str, y ≠ "k" → y ≠ "inside" → y ≠ "first" → y ≠ "node" → y ≠ "last" → m y = m₀ y) → m "node" = some (.ref ndi) → Pairs (Mem M) rows ((List.range i).map (lvl st en c.p c.q)) → @LT.lt Nat _ fa I → (∀ p ∈ M, @Ne Nat p.1 I) → (∀ p ∈ M, @Ne Nat p.1 fa) → (∀ p ∈ rest, p ∈ M) →
      RNode (Mem M) c ndi st1 en1 d1 → (st1, en1) = lvl st en c.p c.q i →
      Fr h₀ env.locals h (fun y => if y = "k" then some (.int (0 + (i : Int)) t) else m y) → News h₀ env.locals h ((I, itR (0 + ((i + 1 : Nat) : Int)) ((n : Int) - ((i + 1 : Nat) : Int))) :: (fa, listOf rows.toArray cap) :: M) →
      wpAny (model prog w) A (execs body env) (fun f s₂ => match f with
        | .ret v => Q (.ret v) s₂
        | .brk => Q .next s₂
        | _ => Stop (∃ h' tk' m' b x y t5 t6 cap' M' ndj st2 en2 d2, s₂ = { s with heap := h', toks := tk' } ∧ Fr h₀ env.locals h' m' ∧ News h₀ env.locals h' ((I, itR (0 + ((i + 1 : Nat) : Int)) ((n : Int) - ((i + 1 : Nat) : Int))) :: (fa, listOf (rows ++ [Value.ref b]).toArray cap') :: (b, tupObj #[.int x t5, .int y t6]) :: M') ∧
            (x, y) = lvl st en c.p c.q i ∧ (∀ p ∈ M, p ∈ M') ∧ (∀ p ∈ M', @Ne Nat p.1 I ∧ @Ne Nat p.1 fa) ∧ @Ne Nat b I ∧ @Ne Nat b fa ∧ (∀ z : Str, z ≠ "k" → z ≠ "inside" → z ≠ "first" → z ≠ "node" → z ≠ "last" → m' z = m₀ z) ∧
            m' "node" = some (.ref ndj) ∧ RNode (Mem M) c ndj st2 en2 d2 ∧ i + 1 + d2 = d ∧ (st2, en2) = lvl st en c.p c.q (i + 1))) E { s with heap := h, toks := tk }) :
    wpAny (model prog w) A (pyIter (.ref r)) (fun it s₂ => LoopAtV prog w A h₀ env "k" body Q E it s₂) E s := by
  refine range_ind (n := n) (fun i I m nw => ∃ rows cap M ndi st1 en1 d1, nw = (fa, listOf (List.toArray rows) cap) :: M ∧ (∀ y : Str, y ≠ "k" → y ≠ "inside" → y ≠ "first" → y ≠ "node" → y ≠ "last" → m y = m₀ y) ∧ m "node" = some (.ref ndi) ∧ Pairs (Mem M) rows ((List.range i).map (lvl st en c.p c.q)) ∧ @LT.lt Nat _ fa I ∧ (∀ p ∈ M, @Ne Nat p.1 I) ∧ (∀ p ∈ M, @Ne Nat p.1 fa) ∧ (∀ p ∈ rest, p ∈ M) ∧
    RNode (Mem M) c ndi st1 en1 d1 ∧ (st1, en1) = lvl st en c.p c.q i ∧ i + d1 = d) hh hr hsmall hn F N ?_ ?_ ?_
  · exact fun I hI => ⟨[], 0, rest, nd, st, en, d, rfl, fun _ _ _ _ _ _ => rfl, hm0, .nil, hI _ (.head _), fun p hp => Nat.ne_of_lt (hI p (.tail _ hp)), fun p hp => Nat.ne_of_lt (hlt p hp), fun _ h => h, hR, by simp [lvl], by omega⟩
  · rintro i I m nw t h tk hi ⟨rows, cap, M, ndi, st1, en1, d1, rfl, hm, hnd, hP, hI, hMI, hMr, hMs, hR1, hlv, hd1⟩ F4 N4
    refine wpAny_mono (turn i I m rows cap M t h tk ndi st1 en1 d1 hd1 hi hm hnd hP hI hMI hMr hMs hR1 hlv F4 N4) (fun f s₂ p => ?_) fun _ _ e => e
    have fin : Stop (∃ h' tk' m' b x y t5 t6 cap' M' ndj st2 en2 d2, s₂ = { s with heap := h', toks := tk' } ∧ Fr h₀ env.locals h' m' ∧ News h₀ env.locals h' ((I, itR (0 + ((i + 1 : Nat) : Int)) ((n : Int) - ((i + 1 : Nat) : Int))) :: (fa, listOf (rows ++ [Value.ref b]).toArray cap') :: (b, tupObj #[.int x t5, .int y t6]) :: M') ∧
            (x, y) = lvl st en c.p c.q i ∧ (∀ p ∈ M, p ∈ M') ∧ (∀ p ∈ M', @Ne Nat p.1 I ∧ @Ne Nat p.1 fa) ∧ @Ne Nat b I ∧ @Ne Nat b fa ∧ (∀ z : Str, z ≠ "k" → z ≠ "inside" → z ≠ "first" → z ≠ "node" → z ≠ "last" → m' z = m₀ z) ∧
            m' "node" = some (.ref ndj) ∧ RNode (Mem M) c ndj st2 en2 d2 ∧ i + 1 + d2 = d ∧ (st2, en2) = lvl st en c.p c.q (i + 1)) →
        Stop (∃ h' tk' m' nw', s₂ = { s with heap := h', toks := tk' } ∧ Fr h₀ env.locals h' m' ∧ News h₀ env.locals h' ((I, itR (0 + ((i + 1 : Nat) : Int)) ((n : Int) - ((i + 1 : Nat) : Int))) :: nw') ∧ (∀ p ∈ nw', p.1 ≠ I) ∧
          ∃ rows cap M ndi st1 en1 d1, nw' = (fa, listOf (List.toArray rows) cap) :: M ∧ (∀ y : Str, y ≠ "k" → y ≠ "inside" → y ≠ "first" → y ≠ "node" → y ≠ "last" → m' y = m₀ y) ∧ m' "node" = some (.ref ndi) ∧ Pairs (Mem M) rows ((List.range (i + 1)).map (lvl st en c.p c.q)) ∧ @LT.lt Nat _ fa I ∧ (∀ p ∈ M, @Ne Nat p.1 I) ∧ (∀ p ∈ M, @Ne Nat p.1 fa) ∧ (∀ p ∈ rest, p ∈ M) ∧
            RNode (Mem M) c ndi st1 en1 d1 ∧ (st1, en1) = lvl st en c.p c.q (i + 1) ∧ i + 1 + d1 = d) := by
      rintro ⟨h', tk', m', b, x, y, t5, t6, cap', M', ndj, st2, en2, d2, e, F', N', hxy, hs, hne, hb1, hb2, hm', hnd', hR', hd', hl'⟩
      refine ⟨⟨h', tk', m', _, e, F', N', ?_, rows ++ [.ref b], cap', _, ndj, st2, en2, d2, rfl, hm', hnd', ?_, hI, ?_, ?_, fun p hp => .tail _ (hs p (hMs p hp)), hR'.ext (KExt.of_sub fun a o z => .tail _ (hs _ z)), hl', hd'⟩⟩
      · exact List.forall_mem_cons.mpr ⟨Nat.ne_of_lt hI, List.forall_mem_cons.mpr ⟨hb1, fun p hp => (hne p hp).1⟩⟩
      · rw [List.range_succ, List.map_append]
        simp only [List.map_cons, List.map_nil]
        rw [← hxy]
        exact (hP.map fun _ _ z => .tail _ (hs _ z)).snoc (.head _)
      · exact List.forall_mem_cons.mpr ⟨hb1, fun p hp => (hne p hp).1⟩
      · exact List.forall_mem_cons.mpr ⟨hb2, fun p hp => (hne p hp).2⟩
    cases f with
    | ret v => exact p
    | brk => exact p
    | next => exact fin p
    | cont => exact fin p
  · rintro I m nw h tk ⟨rows, cap, M, ndi, st1, en1, d1, rfl, hm, hnd, hP, hI, hMI, hMr, hMs, hR1, hlv, hd1⟩ F4 N4
    omega
end
local macro_rules | `(tactic| walk_at "subscriptTail Name Name ref int") => `(tactic| (k_here; (with_reducible show wpAny _ _ (subscriptTail _ _ (Value.ref _) (Value.int _ _)) _ _ _); k_dflt (refine' item_last ?N ?m ?v ?j ?z ?hs ?_; (case N => k_asm); (case m => k_mem); (case v => assumption); (case j => exact Int.zero_add _); (case z => (refine Nat.lt_trans (by assumption) ?_; decide)); (case hs => with_unfolding_all rfl); k_whole)))
local macro_rules | `(tactic| walk_at "call builtin:list.append") => `(tactic| (k_here; k_dflt (refine' append_K ?F ?N ?U ?_ ?z; (case F => k_asm); (case N => k_asm); (case U => k_upd); (case z => assumption); k_whole); intro h' F' N'; (try k_sweep)))
theorem w_levels {w : World} {dp un : Nat} {gd : Option (List Code)} {cn : Str} {sn : List (Str × NameKind)} {sg sc : Bool} {sm : List (Str × Const)} {a : Addr} {ccd : Value} {cl : List (Str × Addr)} {outer : List Env} {A₀ : Around} {base h₀ : Heap} {L : Addr} {m : Str → Option Value} {s : Shared}
  {p : Program} {loose : List Str} {mean : ExcName → Option Value} {mg mb : Str → Option Value} {Q E : Value → Shared → Prop}
  (B : Below A₀ base outer h₀) (F : Fr h₀ L s.heap m) (X : (hd.heap_39 w.params).In h₀) (T : Top p loose mean mg mb h₀)
  (hd : dp + 20 < recursionLimit) (hu : un + 160 < cLine)
  {c : Ctx} {nd : Addr} {st en : Int} {d : Nat} {tp tq : Tok} {rest : List (Addr × Obj)} (hR : RNode (Mem rest) c nd st en d) (hd1 : d < 20)
  (N : News h₀ L s.heap rest)
  (ret : ∀ fa rows cap M h' tk', Fr h₀ L h' m → News h₀ L h' ((fa, listOf (List.toArray rows) cap) :: M) → (∀ p ∈ rest, p ∈ M) → (∀ p ∈ M, @Ne Nat p.1 fa) → Pairs (Mem M) rows ((List.range d).map (lvl st en c.p c.q)) → Q (.ref fa) ⟨h', s.gens, s.drawn, tk', s.os⟩)
  : wpAny (model PySem.Challenge.rw_vj0018_01.row.prog w) (ktrTop dp un gd cn ⟨.function, sn, sg, sc, sm⟩ L a ccd cl outer) (call (.ref 502) [.ref nd, .int (c.p : Int) tp, .int (c.q : Int) tq]) Q E s := by
  refine wpAny_call ?_
  k_dflt (refine' code_defR (hid := rest) (rest := []) ?k1 ?k2 ?k3 ?k4 ?k5 ?kA ?kF ?kK ?k6 ?k7 ?k8 ?k9 ?kB ?dj ?_ ?c2 ?c3 ?c4 ?c5; (case kA => exact rfl); (case kF => exact rfl); (case kK => exact rfl); (case k1 => exact B); (case k2 => exact F); (case k3 => exact X); (case k4 => (rw [List.append_nil]; exact N)); (case k5 => exact T); (case k6 => k_is); (case k7 => k_is); (case k8 => k_room); (case k9 => exact BindsTo.of_eq rfl); (case c5 => decide); (case kB => exact locs rfl); (case dj => exact (fun _ _ _ h => nomatch h)); (case c2 => exact rfl); (case c3 => exact rfl); (case c4 => exact rfl); k_whole; intro g' L' h' FG' F' N' R' LT' B' X' T' st'; (try dsimp only); (try k_fold))
  clear N B F T
  k_steps
  refine Stop.mk ?_
  rename Fr _ _ _ _ => F3
  rename News _ _ _ _ => N3
  rename IsRange _ _ _ _ _ _ _ _ => rgX
  rename ∀ p : Addr × Obj, p ∈ rest → p.1 < _ => hlt
  refine levels_ind (n := 20) (d := d) (c := c) (st := st) (en := en) (nd := nd) F3 N3 hlt hR hd1 rfl rfl rgX (by decide) (by rfl) ?turn
  case turn =>
    intro i I m rows cap M t h tk ndi st1 en1 d1 hdi hi hm hnd hP hI hMI hMr hMs hR1 hlv F4 N4
    have F5 := Fr.std5a F4 hm hnd
    clear F4 F3 N3
    have hlen : rows.length = i := by
      have := hP.length
      rw [List.length_map, List.length_range] at this
      exact this
    have hz : rows.toArray.size ≤ sizeLine := by
      rw [sizeLine_eq, List.size_toArray]; omega
    cases hR1 with
    | base x1 x2 x3 x4 x5 =>
      obtain ⟨lc2, dn2, tS2, tE2, x6, x7, od2, x8⟩ := x4
      have e1 := hMr _ x1
      have e2 := hMr _ x2
      have e3 := hMr _ x3
      have e4 := hMr _ x6
      have e5 := hMr _ x7
      have e6 := hMr _ x8
      have N5 := front6 N4 x1 x2 x3 x6 x7 x8
      clear N4
      k_steps
      rename News h₀ _ _ _ => N9
      rename Fr h₀ _ _ _ => F9
      subst hdi
      exact ret _ _ _ _ _ _ F9 (swap2 N9 (M := M) fun p hp => by repeat (first | exact hp | refine List.Mem.tail _ ?_)) (fun p hp => .tail _ (hMs p hp)) (List.forall_mem_cons.mpr ⟨Nat.ne_of_gt (by assumption), hMr⟩) (lv_pairs hP hlv)
    | step x1 x2 x3 x4 x5 x6 x7 x8 x9 x10 x11 =>
      obtain ⟨lcA, dnA, tSA, tEA, xa1, xa2, odA, xa3⟩ := x7
      obtain ⟨lcZ, dnZ, tSZ, tEZ, xz1, xz2, odZ, xz3⟩ := x9
      have e1 := hMr _ x1
      have e2 := hMr _ x2
      have e3 := hMr _ x3
      have e4 := hMr _ x4
      have e5 := hMr _ x5
      have e6 := hMr _ x6
      have e7 := hMr _ xa1
      have e8 := hMr _ xa3
      have e9 := hMr _ xz1
      have e10 := hMr _ xz3
      have N5 := front6 (front4 N4 xa1 xa3 xz1 xz3) (.tail _ (.tail _ (.tail _ (.tail _ x1)))) (.tail _ (.tail _ (.tail _ (.tail _ x2)))) (.tail _ (.tail _ (.tail _ (.tail _ x3)))) (.tail _ (.tail _ (.tail _ (.tail _ x4)))) (.tail _ (.tail _ (.tail _ (.tail _ x5)))) (.tail _ (.tail _ (.tail _ (.tail _ x6))))
      clear N4
      k_steps
      · exact (no1 (by assumption) x10).elim
      · exact (no1 (by assumption) x11).elim
      · exact absurd rfl (by assumption)
      · refine Stop.mk ?_
        rename News _ _ _ _ => N6
        rename Fr _ _ _ _ => F6
        exact ⟨_, _, _, _, _, _, _, _, _, M, _, _, _, _, rfl, F6, swap3 N6 (fun p hp => by repeat (first | exact hp | refine List.Mem.tail _ ?_)), hlv, fun _ hp => hp, fun p hp => ⟨hMI p hp, hMr p hp⟩, Nat.ne_of_gt (by assumption), Nat.ne_of_gt (by assumption), fun z h1 h2 h3 h4 h5 => by simp only [if_neg h1, if_neg h2, if_neg h3, if_neg h4, if_neg h5], rfl, x8, idx1 hdi, lvl_succ hlv x10 x11⟩
end Mine
end
section
open PySem PySem.W PyProof.Rows PySem.Calls PySem.Spec
set_option Elab.async false
set_option maxRecDepth 100000
set_option maxHeartbeats 8000000
namespace Mine
theorem prime_told : (fun (_ : OpenLaw) (_ : Params → Frag) => True) PySem.Challenge.rw_vj0018_01 hd.heap_39 := by
  w_top off
  k_fill
  trivial
local macro_rules | `(tactic| k_room) => `(tactic| first
  | ((try simp only [depth_mark, depth_under_make, depth_under_kw, depth_in1, depth_deeper, depth_caller]); decide)
  | ((try simp only [depth_mark, depth_under_make, depth_under_kw, depth_in1, depth_deeper, depth_caller]); (try dsimp only [ktrTop]); (simp only [recursionLimit] at *); omega))
local macro_rules | `(tactic| k_units) => `(tactic| first
  | exact Nat.le_of_ble_eq_true rfl
  | (have hcL9 := cLine_is; (try simp only [units_in1, units_deeper, Around.mark_units, units_caller] at *); (try dsimp only [ktrTop] at *); omega))
local macro_rules | `(tactic| walk_at "call ref") => `(tactic| (k_here; ks_any; k_dflt (
   (refine' call_cls ?k1 ?k2 ?k3 ?k4 ?k5 ?k6 ?_; (case k1 => k_asm); (case k2 => k_asm); (case k3 => k_asm); (case k4 => k_is); (case k5 => k_is); (case k6 => k_is); intro x' d' h' F' N' l1 l2; (try k_lt l1); (try k_lt2 l2);
    (refine' ks_code_super ?k1 ?k2 ?k3 ?k4 ?k5 ?kA ?kF ?kK ?k6 ?k7 ?k8 ?k9 ?kB ?_ ?c1 ?c2 ?c3 ?c4; (case kA => exact rfl); (case kF => exact rfl); (case kK => exact rfl); (case k1 => k_asm); (case k2 => k_asm); (case k3 => k_asm); (case k4 => k_asm); (case k5 => k_asm); (case k6 => k_is); (case k7 => k_is); (case k8 => k_room); (case k9 => exact binds_K (by k_in) rfl (by k_is) rfl rfl rfl); (case kB => exact locs rfl); (case c1 => decide); (case c2 => exact rfl); (case c3 => exact rfl); (case c4 => exact rfl); intro g' L' h' FG' F' N' B' X' T' l1; (try k_lt l1); (try dsimp only); (try k_lift B'))))))
local macro_rules | `(tactic| k_inst) => `(tactic| first
  | (refine' InstAt.of_news ?N ?h1 ?h2; (case N => k_asm); (case h1 => k_mem); (case h2 => k_mem))
  | (refine' instB ?F ?h1 ?N ?h2; (case F => k_asm); (case h1 => assumption); (case N => k_asm); (case h2 => k_mem))
  | (refine' instBB ?F ?h1 ?h2; (case F => k_asm); (case h1 => assumption); (case h2 => assumption)))
local macro_rules | `(tactic| walk_at "call builtin:getattr") => `(tactic| (k_here; (with_reducible show wpAny _ _ (call (Value.builtin _) [Value.ref _, Value.str _ _, _]) _ _ _); k_dflt (first
  | (refine' ga3_own ?F ?X ?I ?g ?hh ?ha ?hn ?hl ?hv ?hm ?nm ?_; (case I => k_inst); (case F => k_asm); (case X => k_asm); (case g => k_is); (case hh => k_is); (case ha => k_is); (case hn => k_is); (case hl => k_get); (case hv => k_handed); (case hm => k_is); (case nm => decide); k_whole)
  | (refine' ga3_no ?F ?X ?N ?I ?hA ?g ?hh ?ha ?hl ?hm ?nm ?hc ?hcn ?cp ?ms ?_; (case I => k_inst); (case F => k_asm); (case X => k_asm); (case N => k_asm); (case hA => exact rfl); (case g => k_is); (case hh => k_is); (case ha => k_is); (case hl => k_get); (case hm => k_is); (case nm => decide); (case hc => k_is); (case hcn => decide +kernel); (case cp => decide +kernel); (case ms => decide +kernel); k_whole; intro h' tk' F' N'; (try k_sweep)))))
local macro_rules | `(tactic| walk_at "call builtin:len") => `(tactic| (k_here; (with_reducible show wpAny _ _ (call (Value.builtin "len") [Value.ref _]) _ _ _); k_dflt (refine' kda_len (knd := PySem.intKind _ _) ?N ?m ?d ?lo ?fit ?_; (case N => k_asm); (case m => k_mem); (case d => assumption); (case lo => assumption); (case fit => first | omega | (simp only [List.length_append, List.length_cons, List.length_nil]; omega)); k_whole)))
local macro_rules | `(tactic| walk_at "setItem ref int") => `(tactic| (k_here; k_dflt (refine' kda_set (knd := PySem.intKind _ _) ?F ?N ?U ?d (intKind_is _ _ _ _) ?z ?_; (case F => k_asm); (case N => k_asm); (case U => k_updF); (case d => assumption); (case z => (rw [sizeLine_eq]; first | omega | (simp only [List.length_append, List.length_cons, List.length_nil]; omega))); k_whole); intro h' o' F' N' hd'; (try dsimp only at N'); (try rw [stored_new (by assumption)] at hd'); (try k_sweep)))
local macro_rules | `(tactic| walk_at "compareOp In int ref") => `(tactic| (k_here; k_dflt (first
  | (refine' mp_in0 (knd := PySem.intKind _ _) ?N ?m ?d ?lo (intKind_is _ _ _ _) ?hl ?_; (case N => k_asm); (case m => k_mem); (case d => assumption); (case lo => assumption); (case hl => assumption); k_whole)
  | (refine' mp_in1 (knd := PySem.intKind _ _) ?N ?m ?d ?lo (intKind_is _ _ _ _) ?hl ?_; (case N => k_asm); (case m => k_mem); (case d => assumption); (case lo => assumption); (case hl => assumption); k_whole))))
local macro_rules | `(tactic| walk_at "subscriptTail") => `(tactic| (k_here; (with_reducible show wpAny _ _ (subscriptTail _ _ (Value.ref _) (Value.int _ _)) _ _ _); k_dflt (refine' kda_item (knd := PySem.intKind _ _) ?N ?m ?d (intKind_is _ _ _ _) ?hl ?_ ?hs ?hg; (case N => k_asm); (case m => k_mem); (case d => assumption); (case hl => assumption); (case hs => with_unfolding_all rfl); (case hg => (intro _; with_unfolding_all rfl)); k_whole)))
local macro_rules | `(tactic| walk_at "getMethod ref") => `(tactic| (k_here; (with_reducible show wpAny _ _ (getMethod (Value.ref _) (Str.ofString "get") _) _ _ _); k_dflt (refine' kdg_method (knd := PySem.intKind _ _) ?N ?m ?d ?_; (case N => k_asm); (case m => k_mem); (case d => assumption); k_whole)))
local macro_rules | `(tactic| walk_at "call builtin:dict.get") => `(tactic| (k_here; k_dflt (refine' kdg_get1 (knd := PySem.intKind _ _) ?N ?m ?d ?lo (intKind_is _ _ _ _) _ ?hl ?_; (case N => k_asm); (case m => k_mem); (case d => assumption); (case lo => assumption); (case hl => assumption); k_whole); (try dsimp only [Option.getD])))
local macro_rules | `(tactic| walk_at "getAttr ref") => `(tactic| (k_here; k_dflt (refine' exc_getK ?F ?X ?I ?ga ?gt ?hb ?hh ?ha ?hn ?hl ?hv ?_; (case I => (first | (refine' instE ?iN ?i1 ?i2; (case iN => k_asm); (case i1 => k_mem); (case i2 => k_mem)) | (refine' instEB ?iF ?i1 ?iN ?i2; (case iF => k_asm); (case i1 => assumption); (case iN => k_asm); (case i2 => k_mem)))); (case F => k_asm); (case X => k_asm); (case ga => k_is); (case gt => k_is); (case hb => k_is); (case hh => k_is); (case ha => k_is); (case hn => k_is); (case hl => k_get); (case hv => k_handed); k_whole)))
local macro_rules | `(tactic| walk_at "setAttr ref") => `(tactic| (k_here; k_dflt (first
  | (refine' exc_setK ?F ?X ?N ?I ?hd ?hs ?hc ?hp ?hdd ?ho ?ht ?hl ?e ?U ?hz ?_; (case I => (first | (refine' instE ?iN ?i1 ?i2; (case iN => k_asm); (case i1 => k_mem); (case i2 => k_mem)) | (refine' instEB ?iF ?i1 ?iN ?i2; (case iF => k_asm); (case i1 => assumption); (case iN => k_asm); (case i2 => k_mem)))); (case F => k_asm); (case X => k_asm); (case N => k_asm); (case hd => exact rfl); (case hs => k_is); (case hc => k_is); (case hp => first | exact pass87 _ | exact pass125 _); (case hdd => exact rfl); (case ho => k_is); (case ht => k_is); (case hl => k_get); (case e => k_put); (case U => k_upd); (case hz => exact Nat.le_of_ble_eq_true rfl); k_whole; intro h' F' N'; (try k_sweep))
  | (refine' exc_set0K ?F ?X ?N ?hs ?hc ?hp ?hdd ?ho ?ht ?U ?_; (case F => k_asm); (case X => k_asm); (case N => k_asm); (case U => (intro d'; k_upd)); (case hs => k_is); (case hc => k_is); (case hp => first | exact pass87 _ | exact pass125 _); (case hdd => exact rfl); (case ho => k_is); (case ht => k_is); k_whole; intro d' h' F' N' l1; (try k_lt l1); (try k_sweep)))))
local macro_rules | `(tactic| walk_at "call ref") => `(tactic| (k_here; k_dflt (refine' exc_callK ?F ?X ?N ?hC ?a ?b ?c ?d ?e ?f ?g ?hr ?_; (case F => k_asm); (case X => k_asm); (case N => k_asm); (case hC => k_is); (case a => decide +kernel); (case b => decide +kernel); (case c => decide +kernel); (case d => k_is); (case e => k_is); (case f => k_is); (case g => k_is); (case hr => exact Nat.le_of_ble_eq_true rfl); k_whole; intro x' t' h' F' N' l1 l2; (try k_lt l1); (try k_lt2 l2); (try k_sweep); k_enter)))
local macro_rules | `(tactic| walk_at "call builtin:getattr") => `(tactic| (k_here; (with_reducible show wpAny _ _ (call (Value.builtin _) [Value.none, Value.str _ _, _]) _ _ _); k_dflt (refine' ga3_noneK ?F ?N ?hA ?nm ?hm ?hz ?_; (case F => k_asm); (case N => k_asm); (case hA => exact rfl); (case nm => decide); (case hm => exact am_miss_of_fast (by kernel_rfl)); (case hz => (rw [sizeLine_eq]; decide)); k_whole; intro h' tk' F' N'; (try k_sweep))))
local macro_rules | `(tactic| walk_at "call builtin:getattr") => `(tactic| (k_here; (with_reducible show wpAny _ _ (call (Value.builtin _) [Value.ref _, Value.str (Str.ofString "name") _, _]) _ _ _); k_dflt (refine' ga_nameK ?F ?X ?N ?e ?d ?_; (case F => k_asm); (case X => k_asm); (case N => k_asm); (case e => assumption); (case d => (first | assumption | (repeat (first | assumption | refine List.Mem.tail _ ?_)))); k_whole; intro nm' tk')))
local macro_rules | `(tactic| walk_at "setAttr ref") => `(tactic| (k_here; (with_reducible show wpAny _ _ (setAttr (Value.ref _) (Str.ofString "expr") _) _ _ _); k_dflt (refine' er_set_expr ?F ?X ?N ?I ?hd ?U ?_; (case I => (first | (refine' instE ?iN ?i1 ?i2; (case iN => k_asm); (case i1 => k_mem); (case i2 => k_mem)) | (refine' instEB ?iF ?i1 ?iN ?i2; (case iF => k_asm); (case i1 => assumption); (case iN => k_asm); (case i2 => k_mem)))); (case F => k_asm); (case X => k_asm); (case N => k_asm); (case hd => exact rfl); (case U => k_upd); k_whole; intro h' F' N'; (try k_sweep))))
local macro_rules | `(tactic| walk_at "setAttr ref") => `(tactic| (k_here; (with_reducible show wpAny _ _ (setAttr (Value.ref _) (Str.ofString "pos") _) _ _ _); k_dflt (refine' er_set_pos ?F ?X ?N ?I ?hd ?U ?_; (case I => (first | (refine' instE ?iN ?i1 ?i2; (case iN => k_asm); (case i1 => k_mem); (case i2 => k_mem)) | (refine' instEB ?iF ?i1 ?iN ?i2; (case iF => k_asm); (case i1 => assumption); (case iN => k_asm); (case i2 => k_mem)))); (case F => k_asm); (case X => k_asm); (case N => k_asm); (case hd => exact rfl); (case U => k_upd); k_whole; intro h' F' N'; (try k_sweep))))
local macro_rules | `(tactic| k_all) => `(tactic| first | (refine ?_; assumption) | exact allLt_at (by assumption) | exact allLt_lt (by assumption) (ltN (by (try dsimp only); omega)))
local macro_rules | `(tactic| k_lt $h:ident) => `(tactic| (replace $h := allLt_of $h; (simp only [AllLt, and_true] at $h:ident); (repeat (refine And.elim ?_ $h; clear $h; intro _ $h))))
local macro_rules | `(tactic| walk_at "call ref") => `(tactic| (k_here; (with_reducible show wpAny _ _ (call (Value.ref 290) _ _) _ _ _); (refine Stop.go ?_)))
local macro_rules | `(tactic| walk_at "call ref") => `(tactic| (k_here; (with_reducible show wpAny _ _ (call (Value.ref 502) _ _) _ _ _); (refine Stop.go ?_)))
local macro_rules | `(tactic| k_get) => `(tactic| (refine ?_; assumption))
theorem reach_zero {p q r : Nat} (hr : 1 ≤ r) (n : Nat) (h : (reach p q r n).1 = 0) : (reach p q r n).2 = 0 := by
  rw [reach_eq] at h ⊢
  split at h
  · rename_i h1
    rw [if_pos h1]
    split at h
    · simp at h; omega
    · rename_i h2
      rw [if_neg h2]
      split at h
      · simp at h; omega
      · rename_i h3
        rw [if_neg h3]
  · rename_i h1
    rw [if_neg h1]
    split at h
    · simp at h; omega
    · rename_i h3
      rw [if_neg h3]
theorem resplit {c : Ctx} {D : Ex → Obj} {rest M : List (Addr × Obj)} {h₀ h : Heap} {L : Addr} (N : News h₀ L h M) (sub : ∀ p ∈ Md c D ++ rest, p ∈ M) (dj : ∀ p ∈ Md c D, ∀ q ∈ rest, p.1 ≠ q.1) :
    ∃ rest', (∀ p ∈ Md c D, ∀ q ∈ rest', p.1 ≠ q.1) ∧ (∀ p ∈ rest, p ∈ rest') ∧ (∀ p ∈ M, p ∈ Md c D ++ rest') ∧ ∀ p ∈ Md c D ++ rest', p ∈ M := by
  have hall : ∀ e : Ex, e ∈ [Ex.R, .S, .P, .Q, .T] := fun e => by cases e <;> decide
  refine ⟨M.filter fun p => decide (∀ e ∈ [Ex.R, .S, .P, .Q, .T], p.1 ≠ c.dd e), ?_, ?_, ?_, ?_⟩
  · intro p hp q hq z
    obtain ⟨e, rfl⟩ := Md_of hp
    exact of_decide_eq_true (List.mem_filter.mp hq).2 e (hall e) z.symm
  · intro p hp
    exact List.mem_filter.mpr ⟨sub _ (List.mem_append_right _ hp), decide_eq_true fun e _ z => dj _ (Md_mem e) p hp z.symm⟩
  · intro p hp
    by_cases z : ∃ e, p.1 = c.dd e
    · obtain ⟨e, z⟩ := z
      obtain ⟨a, o⟩ := p
      dsimp only at z
      subst z
      have h1 := Option.some.inj ((N _ hp).1.symm.trans (N _ (sub _ (List.mem_append_left _ (Md_mem (D := D) e)))).1)
      have h2 : o = D e := h1
      subst h2
      exact List.mem_append_left _ (Md_mem e)
    · exact List.mem_append_right _ (List.mem_filter.mpr ⟨hp, decide_eq_true fun e _ q => z ⟨e, q⟩⟩)
  · intro p hp
    rcases List.mem_append.mp hp with hp | hp
    · exact sub _ (List.mem_append_left _ hp)
    · exact (List.mem_filter.mp hp).1
theorem reach_dep {p q r : Nat} (hr : 1 ≤ r) : ∀ left, (reach p q r left).2 ≤ left := by
  intro left
  induction left using Nat.strongRecOn with
  | _ left ih =>
    rw [reach_eq]
    split
    · rename_i h
      have := ih (left - p) (by omega)
      split
      · show _ + 1 ≤ left; omega
      · split
        · show 1 ≤ left; omega
        · exact Nat.zero_le _
    · split
      · show 1 ≤ left; omega
      · exact Nat.zero_le _
theorem w_told {w : World} {dp un : Nat} {gd : Option (List Code)} {cn : Str} {sn : List (Str × NameKind)} {sg sc : Bool} {sm : List (Str × Const)} {a : Addr} {ccd : Value} {A₀ : Around} {h₀ : Heap} {L : Addr} {m : Str → Option Value} {s : Shared}
  {p : Program} {loose : List Str} {mean : ExcName → Option Value} {mg mb : Str → Option Value} {Q E : Value → Shared → Prop}
  (B : Below A₀ h₀ [] h₀) (F : Fr h₀ L s.heap m) (X : (hd.heap_39 w.params).In h₀) (T : Top p loose mean mg mb h₀)
  (hd : dp + 20 < recursionLimit) (hu : un + 160 < cLine)
  {c : Ctx} {D : Ex → Obj} {rest : List (Addr × Obj)} {k : Nat} {t1 t2 t3 : Tok} (Fi : c.Fine) (hk : k ≤ c.n) (hRm : (c.ad .R, c.ob .R) ∈ rest)
  (RS : RSt c D (Kn h₀ rest)) (hj : ∀ e, (c.its e).length ≤ 99) (hDR : ∃ es n, D .R = dictOf es n ∧ getL (Str.ofString "match_core") es = some none ∧ getL (Str.ofString "match") es = some none)
  (N : News h₀ L s.heap (Md c D ++ rest)) (dj : ∀ p ∈ Md c D, ∀ q ∈ rest, p.1 ≠ q.1) (hd3 : dp + 300 < recursionLimit) (hu3 : un + 2500 < cLine)
  (ret : ∀ cache err derr at_ f D' rest' fa rows cap h' tk', Fr h₀ L h' m → News h₀ L h' ((fa, listOf (List.toArray rows) cap) :: (Md c D' ++ rest')) → (∀ p ∈ Md c D', ∀ q ∈ rest', p.1 ≠ q.1) → (∀ p ∈ rest, p ∈ rest') → RSt ((c.begin cache err derr at_).later f) D' (Kn h₀ rest') →
    (∀ e, (f e).2.2.1.length ≤ (c.its e).length + 1) → Pairs (Mem (Md c D' ++ rest')) rows ((List.range (reach c.p c.q c.r (c.n - k)).2).map (lvl (k : Int) ((k : Int) + ((reach c.p c.q c.r (c.n - k)).1 : Int)) c.p c.q)) → Q (.ref fa) ⟨h', s.gens, s.drawn, tk', s.os⟩)
  : wpAny (model PySem.Challenge.rw_vj0018_01.row.prog w) (ktrTop dp un gd cn ⟨.function, sn, sg, sc, sm⟩ L a ccd [] []) (call (.ref 514) [.ref (c.ad .R), c.text, .int (k : Int) t1, .int (c.p : Int) t2, .int (c.q : Int) t3]) Q E s := by
  obtain ⟨es, nR, hDR, hgR, hgM⟩ := hDR
  have hDm : (c.dd .R, dictOf es nR) ∈ Md c D ++ rest := List.mem_append_left _ (hDR ▸ Md_mem .R)
  have N2 := News.sub N (M' := (c.ad .R, oneObj (c.dd .R) c.tR (c.it .R) (.str (Str.ofString "s") (c.nt .R))) :: (c.dd .R, dictOf es nR) :: (Md c D ++ rest)) (List.forall_mem_cons.mpr ⟨List.mem_append_right _ hRm, List.forall_mem_cons.mpr ⟨hDm, fun _ h => h⟩⟩)
  clear N
  k_steps
  refine Stop.mk ?_
  rename News _ _ _ _ => N3
  k_dflt (refine' w_match (k := k) (c := c) (D := D) (rest := rest) ?B1 ?F1 ?X1 ?T1 ?d1 ?u1 Fi hk RS hj ⟨es, nR, hDR, hgR⟩ ?N1 dj ?dd1 ?uu1 ?ok1 ?bad1)
  case B1 => k_asm
  case F1 => k_asm
  case X1 => k_asm
  case T1 => k_asm
  case N1 => exact News.sub N3 fun p hp => by repeat (first | exact hp | refine List.Mem.tail _ ?_)
  case d1 => ((try simp only [depth_mark, depth_deeper, depth_under_make, depth_under_kw, depth_in1]); (try dsimp only [ktrTop]); omega)
  case u1 => ((try simp only [units_in1, units_deeper, Around.mark_units]); (try dsimp only [ktrTop]); omega)
  case dd1 => ((try simp only [depth_mark, depth_deeper, depth_under_make, depth_under_kw, depth_in1]); (try dsimp only [ktrTop]); omega)
  case uu1 => ((try simp only [units_in1, units_deeper, Around.mark_units]); (try dsimp only [ktrTop]); omega)
  case bad1 =>
    intro cache err derr at_ f D' rest' t g h9 tk9 hno F9 U9 R9 dj9 sub9 RS9 len9
    generalize hW : Md c D' ++ rest' = W at R9
    k_steps
    rename News h₀ _ _ _ => N11
    rename Fr h₀ _ _ _ => F11
    subst hW
    refine ret cache err derr at_ f D' rest' _ [] 0 _ _ F11 N11 dj9 sub9 RS9 len9 ?_
    rw [reach_zero Fi.r0 _ hno]
    exact .nil
  case ok1 =>
    intro cache err derr at_ f D' rest' nd h9 tk9 hyes F9 N9 dj9 sub9 RS9 len9 hR
    have hdep : (reach c.p c.q c.r (c.n - k)).2 < 20 := Nat.lt_of_le_of_lt (reach_dep Fi.r0 _) (by have := Fi.n16; omega)
    generalize hW : Md c D' ++ rest' = W at N9 hR
    clear N3
    k_steps
    refine Stop.mk ?_
    k_dflt (refine' w_levels (c := c.begin cache err derr at_) ?B2 ?F2 ?X2 ?T2 ?d2 ?u2 hR hdep N9 ?ret2)
    case B2 => k_asm
    case F2 => k_asm
    case X2 => k_asm
    case T2 => k_asm
    case d2 => ((try simp only [depth_mark, depth_deeper, depth_under_make, depth_under_kw, depth_in1]); (try dsimp only [ktrTop]); omega)
    case u2 => ((try simp only [units_in1, units_deeper, Around.mark_units]); (try dsimp only [ktrTop]); omega)
    case ret2 =>
      intro fa rows cap M h10 tk10 F10 N10 sub10 ne10 P10
      clear N9
      k_steps
      rename News h₀ _ _ _ => N11
      rename Fr h₀ _ _ _ => F11
      subst hW
      obtain ⟨rest2, s1, s2, s3, s4⟩ := resplit (fun p hp => N11 p (.tail _ hp)) sub10 dj9
      exact ret cache err derr at_ f D' rest2 fa rows cap _ _ F11 (News.sub N11 (List.forall_mem_cons.mpr ⟨.head _, fun p hp => .tail _ (s4 p hp)⟩)) s1 (fun p hp => s2 p (sub9 p hp)) (RS9.mono fun _ _ z => z.mono s2) len9 (P10.map fun _ _ z => s3 _ z)
end Mine
end
section
open PySem PySem.W PyProof.Rows PySem.Calls PySem.Spec
set_option Elab.async false
set_option maxRecDepth 100000
set_option maxHeartbeats 8000000
namespace Mine
theorem prime_parse : (fun (_ : OpenLaw) (_ : Params → Frag) => True) PySem.Challenge.rw_vj0018_01 hd.heap_39 := by
  w_top off
  k_fill
  trivial
local macro_rules | `(tactic| k_room) => `(tactic| first
  | ((try simp only [depth_mark, depth_under_make, depth_under_kw, depth_in1, depth_deeper, depth_caller]); decide)
  | ((try simp only [depth_mark, depth_under_make, depth_under_kw, depth_in1, depth_deeper, depth_caller]); (try dsimp only [ktrTop]); (simp only [recursionLimit] at *); omega))
local macro_rules | `(tactic| k_units) => `(tactic| first
  | exact Nat.le_of_ble_eq_true rfl
  | (have hcL9 := cLine_is; (try simp only [units_in1, units_deeper, Around.mark_units, units_caller] at *); (try dsimp only [ktrTop] at *); omega))
local macro_rules | `(tactic| walk_at "call ref") => `(tactic| (k_here; ks_any; k_dflt (
   (refine' call_cls ?k1 ?k2 ?k3 ?k4 ?k5 ?k6 ?_; (case k1 => k_asm); (case k2 => k_asm); (case k3 => k_asm); (case k4 => k_is); (case k5 => k_is); (case k6 => k_is); intro x' d' h' F' N' l1 l2; (try k_lt l1); (try k_lt2 l2);
    (refine' ks_code_super ?k1 ?k2 ?k3 ?k4 ?k5 ?kA ?kF ?kK ?k6 ?k7 ?k8 ?k9 ?kB ?_ ?c1 ?c2 ?c3 ?c4; (case kA => exact rfl); (case kF => exact rfl); (case kK => exact rfl); (case k1 => k_asm); (case k2 => k_asm); (case k3 => k_asm); (case k4 => k_asm); (case k5 => k_asm); (case k6 => k_is); (case k7 => k_is); (case k8 => k_room); (case k9 => exact binds_K (by k_in) rfl (by k_is) rfl rfl rfl); (case kB => exact locs rfl); (case c1 => decide); (case c2 => exact rfl); (case c3 => exact rfl); (case c4 => exact rfl); intro g' L' h' FG' F' N' B' X' T' l1; (try k_lt l1); (try dsimp only); (try k_lift B'))))))
local macro_rules | `(tactic| k_inst) => `(tactic| first
  | (refine' InstAt.of_news ?N ?h1 ?h2; (case N => k_asm); (case h1 => k_mem); (case h2 => k_mem))
  | (refine' instB ?F ?h1 ?N ?h2; (case F => k_asm); (case h1 => assumption); (case N => k_asm); (case h2 => k_mem))
  | (refine' instBB ?F ?h1 ?h2; (case F => k_asm); (case h1 => assumption); (case h2 => assumption)))
local macro_rules | `(tactic| walk_at "call builtin:getattr") => `(tactic| (k_here; (with_reducible show wpAny _ _ (call (Value.builtin _) [Value.ref _, Value.str _ _, _]) _ _ _); k_dflt (first
  | (refine' ga3_own ?F ?X ?I ?g ?hh ?ha ?hn ?hl ?hv ?hm ?nm ?_; (case I => k_inst); (case F => k_asm); (case X => k_asm); (case g => k_is); (case hh => k_is); (case ha => k_is); (case hn => k_is); (case hl => k_get); (case hv => k_handed); (case hm => k_is); (case nm => decide); k_whole)
  | (refine' ga3_no ?F ?X ?N ?I ?hA ?g ?hh ?ha ?hl ?hm ?nm ?hc ?hcn ?cp ?ms ?_; (case I => k_inst); (case F => k_asm); (case X => k_asm); (case N => k_asm); (case hA => exact rfl); (case g => k_is); (case hh => k_is); (case ha => k_is); (case hl => k_get); (case hm => k_is); (case nm => decide); (case hc => k_is); (case hcn => decide +kernel); (case cp => decide +kernel); (case ms => decide +kernel); k_whole; intro h' tk' F' N'; (try k_sweep)))))
local macro_rules | `(tactic| walk_at "call builtin:len") => `(tactic| (k_here; (with_reducible show wpAny _ _ (call (Value.builtin "len") [Value.ref _]) _ _ _); k_dflt (refine' kda_len (knd := PySem.intKind _ _) ?N ?m ?d ?lo ?fit ?_; (case N => k_asm); (case m => k_mem); (case d => assumption); (case lo => assumption); (case fit => first | omega | (simp only [List.length_append, List.length_cons, List.length_nil]; omega)); k_whole)))
local macro_rules | `(tactic| walk_at "setItem ref int") => `(tactic| (k_here; k_dflt (refine' kda_set (knd := PySem.intKind _ _) ?F ?N ?U ?d (intKind_is _ _ _ _) ?z ?_; (case F => k_asm); (case N => k_asm); (case U => k_updF); (case d => assumption); (case z => (rw [sizeLine_eq]; first | omega | (simp only [List.length_append, List.length_cons, List.length_nil]; omega))); k_whole); intro h' o' F' N' hd'; (try dsimp only at N'); (try rw [stored_new (by assumption)] at hd'); (try k_sweep)))
local macro_rules | `(tactic| walk_at "compareOp In int ref") => `(tactic| (k_here; k_dflt (first
  | (refine' mp_in0 (knd := PySem.intKind _ _) ?N ?m ?d ?lo (intKind_is _ _ _ _) ?hl ?_; (case N => k_asm); (case m => k_mem); (case d => assumption); (case lo => assumption); (case hl => assumption); k_whole)
  | (refine' mp_in1 (knd := PySem.intKind _ _) ?N ?m ?d ?lo (intKind_is _ _ _ _) ?hl ?_; (case N => k_asm); (case m => k_mem); (case d => assumption); (case lo => assumption); (case hl => assumption); k_whole))))
local macro_rules | `(tactic| walk_at "subscriptTail") => `(tactic| (k_here; (with_reducible show wpAny _ _ (subscriptTail _ _ (Value.ref _) (Value.int _ _)) _ _ _); k_dflt (refine' kda_item (knd := PySem.intKind _ _) ?N ?m ?d (intKind_is _ _ _ _) ?hl ?_ ?hs ?hg; (case N => k_asm); (case m => k_mem); (case d => assumption); (case hl => assumption); (case hs => with_unfolding_all rfl); (case hg => (intro _; with_unfolding_all rfl)); k_whole)))
local macro_rules | `(tactic| walk_at "getMethod ref") => `(tactic| (k_here; (with_reducible show wpAny _ _ (getMethod (Value.ref _) (Str.ofString "get") _) _ _ _); k_dflt (refine' kdg_method (knd := PySem.intKind _ _) ?N ?m ?d ?_; (case N => k_asm); (case m => k_mem); (case d => assumption); k_whole)))
local macro_rules | `(tactic| walk_at "call builtin:dict.get") => `(tactic| (k_here; k_dflt (refine' kdg_get1 (knd := PySem.intKind _ _) ?N ?m ?d ?lo (intKind_is _ _ _ _) _ ?hl ?_; (case N => k_asm); (case m => k_mem); (case d => assumption); (case lo => assumption); (case hl => assumption); k_whole); (try dsimp only [Option.getD])))
local macro_rules | `(tactic| walk_at "getAttr ref") => `(tactic| (k_here; k_dflt (refine' exc_getK ?F ?X ?I ?ga ?gt ?hb ?hh ?ha ?hn ?hl ?hv ?_; (case I => (first | (refine' instE ?iN ?i1 ?i2; (case iN => k_asm); (case i1 => k_mem); (case i2 => k_mem)) | (refine' instEB ?iF ?i1 ?iN ?i2; (case iF => k_asm); (case i1 => assumption); (case iN => k_asm); (case i2 => k_mem)))); (case F => k_asm); (case X => k_asm); (case ga => k_is); (case gt => k_is); (case hb => k_is); (case hh => k_is); (case ha => k_is); (case hn => k_is); (case hl => k_get); (case hv => k_handed); k_whole)))
local macro_rules | `(tactic| walk_at "setAttr ref") => `(tactic| (k_here; k_dflt (first
  | (refine' exc_setK ?F ?X ?N ?I ?hd ?hs ?hc ?hp ?hdd ?ho ?ht ?hl ?e ?U ?hz ?_; (case I => (first | (refine' instE ?iN ?i1 ?i2; (case iN => k_asm); (case i1 => k_mem); (case i2 => k_mem)) | (refine' instEB ?iF ?i1 ?iN ?i2; (case iF => k_asm); (case i1 => assumption); (case iN => k_asm); (case i2 => k_mem)))); (case F => k_asm); (case X => k_asm); (case N => k_asm); (case hd => exact rfl); (case hs => k_is); (case hc => k_is); (case hp => first | exact pass87 _ | exact pass125 _); (case hdd => exact rfl); (case ho => k_is); (case ht => k_is); (case hl => k_get); (case e => k_put); (case U => k_upd); (case hz => exact Nat.le_of_ble_eq_true rfl); k_whole; intro h' F' N'; (try k_sweep))
  | (refine' exc_set0K ?F ?X ?N ?hs ?hc ?hp ?hdd ?ho ?ht ?U ?_; (case F => k_asm); (case X => k_asm); (case N => k_asm); (case U => (intro d'; k_upd)); (case hs => k_is); (case hc => k_is); (case hp => first | exact pass87 _ | exact pass125 _); (case hdd => exact rfl); (case ho => k_is); (case ht => k_is); k_whole; intro d' h' F' N' l1; (try k_lt l1); (try k_sweep)))))
local macro_rules | `(tactic| walk_at "call ref") => `(tactic| (k_here; k_dflt (refine' exc_callK ?F ?X ?N ?hC ?a ?b ?c ?d ?e ?f ?g ?hr ?_; (case F => k_asm); (case X => k_asm); (case N => k_asm); (case hC => k_is); (case a => decide +kernel); (case b => decide +kernel); (case c => decide +kernel); (case d => k_is); (case e => k_is); (case f => k_is); (case g => k_is); (case hr => exact Nat.le_of_ble_eq_true rfl); k_whole; intro x' t' h' F' N' l1 l2; (try k_lt l1); (try k_lt2 l2); (try k_sweep); k_enter)))
local macro_rules | `(tactic| walk_at "call builtin:getattr") => `(tactic| (k_here; (with_reducible show wpAny _ _ (call (Value.builtin _) [Value.none, Value.str _ _, _]) _ _ _); k_dflt (refine' ga3_noneK ?F ?N ?hA ?nm ?hm ?hz ?_; (case F => k_asm); (case N => k_asm); (case hA => exact rfl); (case nm => decide); (case hm => exact am_miss_of_fast (by kernel_rfl)); (case hz => (rw [sizeLine_eq]; decide)); k_whole; intro h' tk' F' N'; (try k_sweep))))
local macro_rules | `(tactic| walk_at "call builtin:getattr") => `(tactic| (k_here; (with_reducible show wpAny _ _ (call (Value.builtin _) [Value.ref _, Value.str (Str.ofString "name") _, _]) _ _ _); k_dflt (refine' ga_nameK ?F ?X ?N ?e ?d ?_; (case F => k_asm); (case X => k_asm); (case N => k_asm); (case e => assumption); (case d => (first | assumption | (repeat (first | assumption | refine List.Mem.tail _ ?_)))); k_whole; intro nm' tk')))
local macro_rules | `(tactic| walk_at "setAttr ref") => `(tactic| (k_here; (with_reducible show wpAny _ _ (setAttr (Value.ref _) (Str.ofString "expr") _) _ _ _); k_dflt (refine' er_set_expr ?F ?X ?N ?I ?hd ?U ?_; (case I => (first | (refine' instE ?iN ?i1 ?i2; (case iN => k_asm); (case i1 => k_mem); (case i2 => k_mem)) | (refine' instEB ?iF ?i1 ?iN ?i2; (case iF => k_asm); (case i1 => assumption); (case iN => k_asm); (case i2 => k_mem)))); (case F => k_asm); (case X => k_asm); (case N => k_asm); (case hd => exact rfl); (case U => k_upd); k_whole; intro h' F' N'; (try k_sweep))))
local macro_rules | `(tactic| walk_at "setAttr ref") => `(tactic| (k_here; (with_reducible show wpAny _ _ (setAttr (Value.ref _) (Str.ofString "pos") _) _ _ _); k_dflt (refine' er_set_pos ?F ?X ?N ?I ?hd ?U ?_; (case I => (first | (refine' instE ?iN ?i1 ?i2; (case iN => k_asm); (case i1 => k_mem); (case i2 => k_mem)) | (refine' instEB ?iF ?i1 ?iN ?i2; (case iF => k_asm); (case i1 => assumption); (case iN => k_asm); (case i2 => k_mem)))); (case F => k_asm); (case X => k_asm); (case N => k_asm); (case hd => exact rfl); (case U => k_upd); k_whole; intro h' F' N'; (try k_sweep))))
local macro_rules | `(tactic| k_all) => `(tactic| first | (refine ?_; assumption) | exact allLt_at (by assumption) | exact allLt_lt (by assumption) (ltN (by (try dsimp only); omega)))
local macro_rules | `(tactic| k_lt $h:ident) => `(tactic| (replace $h := allLt_of $h; (simp only [AllLt, and_true] at $h:ident); (repeat (refine And.elim ?_ $h; clear $h; intro _ $h))))
theorem len_text {prog : Program} {w : World} {A : Around} {E : Value → Shared → Prop} {s : Shared} {c : Ctx} (Fi : c.Fine) {Q : Value → Shared → Prop} (h : Q (.int (c.n : Int) (s.toks + 1)) { s with toks := s.toks + 1 + 1 }) : wpAny (model prog w) A (call (.builtin "len") [c.text]) Q E s := by
  have n16 := Fi.n16
  have e := Fi.len c.n
  refine PyProof.Rows.len_str (x := c.lit c.n) (by omega) ?_
  rw [e]
  exact h
local macro_rules | `(tactic| walk_at "call builtin:len") => `(tactic| (k_here; (with_reducible show wpAny _ _ (call (Value.builtin "len") [Ctx.text _]) _ _ _); k_dflt (refine' len_text ?Fi ?_; (case Fi => assumption); k_whole)))
local macro_rules | `(tactic| walk_at "exec Raise some none") => `(tactic| (k_here; (with_reducible show wpAny _ _ (exec (Stmt.Raise (some (Expr.Call _ _ _ _)) none _) _) _ _ _); k_dflt (refine' raise_any (C := 125) (sl := #[]) ?X ?hC ?hb ?hh ?_; (case X => k_asm); (case hC => k_is); (case hb => decide +kernel); (case hh => exact rfl); k_whole)))
local macro_rules | `(tactic| walk_at "call ref") => `(tactic| (k_here; (with_reducible show wpAny _ _ (call (Value.ref 290) _ _) _ _ _); (refine Stop.go ?_)))
local macro_rules | `(tactic| k_get) => `(tactic| (refine ?_; assumption))
theorem w_parse {w : World} {dp un : Nat} {gd : Option (List Code)} {cn : Str} {sn : List (Str × NameKind)} {sg sc : Bool} {sm : List (Str × Const)} {a : Addr} {ccd : Value} {cl : List (Str × Addr)} {outer : List Env} {A₀ : Around} {base h₀ : Heap} {L : Addr} {m : Str → Option Value} {s : Shared}
  {p : Program} {loose : List Str} {mean : ExcName → Option Value} {mg mb : Str → Option Value} {Q E : Value → Shared → Prop}
  (B : Below A₀ base outer h₀) (F : Fr h₀ L s.heap m) (X : (hd.heap_39 w.params).In h₀) (T : Top p loose mean mg mb h₀)
  (hd : dp + 20 < recursionLimit) (hu : un + 160 < cLine)
  {c : Ctx} {D : Ex → Obj} {rest : List (Addr × Obj)} (Fi : c.Fine) (hRm : (c.ad .R, c.ob .R) ∈ rest)
  (RS : RSt c D (Kn base rest)) (hj : ∀ e, (c.its e).length ≤ 99) (hDR : ∃ es n, D .R = dictOf es n ∧ getL (Str.ofString "match_core") es = some none ∧ getL (Str.ofString "match") es = some none)
  (N : News h₀ L s.heap (Md c D ++ rest)) (dj : ∀ p ∈ Md c D, ∀ q ∈ rest, p.1 ≠ q.1) (hd3 : dp + 300 < recursionLimit) (hu3 : un + 2500 < cLine)
  (ok : ∀ cache err derr at_ D' rest' nd h' tk', (reach c.p c.q c.r c.n).1 = c.n → 0 < c.n → Fr h₀ L h' m → News h₀ L h' (Md c D' ++ rest') → (∀ p ∈ rest, p ∈ rest') →
    RNode (Mem (Md c D' ++ rest')) (c.begin cache err derr at_) nd 0 ((reach c.p c.q c.r c.n).1 : Int) (reach c.p c.q c.r c.n).2 → Q (.ref nd) ⟨h', s.gens, s.drawn, tk', s.os⟩)
  (bad : ∀ err t g vs news' h' tk', (reach c.p c.q c.r c.n).1 = 0 → Fr h₀ L g m → g.UpToSlots h' → RaisedS base g (envX cn ⟨.function, sn, sg, sc, sm⟩ L a ccd cl :: outer) err (.ref 87) t vs news' h' → (∀ p ∈ rest, p ∈ news') → E (.ref err) ⟨h', s.gens, s.drawn, tk', s.os⟩)
  (part : ∀ err t g vs news' h' tk', 0 < (reach c.p c.q c.r c.n).1 → (reach c.p c.q c.r c.n).1 < c.n → Fr h₀ L g m → g.UpToSlots h' → RaisedS base g (envX cn ⟨.function, sn, sg, sc, sm⟩ L a ccd cl :: outer) err (.ref 125) t vs news' h' → (∀ p ∈ rest, p ∈ news') → E (.ref err) ⟨h', s.gens, s.drawn, tk', s.os⟩)
  : wpAny (model PySem.Challenge.rw_vj0018_01.row.prog w) (ktrTop dp un gd cn ⟨.function, sn, sg, sc, sm⟩ L a ccd cl outer) (call (.ref 282) [.ref (c.ad .R), c.text]) Q E s := by
  refine wpAny_call ?_
  k_dflt (refine' code_defR (hid := Md c D ++ rest) (rest := []) ?k1 ?k2 ?k3 ?k4 ?k5 ?kA ?kF ?kK ?k6 ?k7 ?k8 ?k9 ?kB ?dj ?_ ?c2 ?c3 ?c4 ?c5; (case kA => exact rfl); (case kF => exact rfl); (case kK => exact rfl); (case k1 => exact B); (case k2 => exact F); (case k3 => exact X); (case k4 => (rw [List.append_nil]; exact N)); (case k5 => exact T); (case k6 => k_is); (case k7 => k_is); (case k8 => k_room); (case k9 => first | exact BindsTo.of_eq rfl | exact binds_K (by k_in) rfl (by k_is) rfl rfl rfl); (case c5 => decide); (case kB => exact locs rfl); (case dj => exact (fun _ _ _ h => nomatch h)); (case c2 => exact rfl); (case c3 => exact rfl); (case c4 => exact rfl); k_whole; intro g' L' h' FG' F' N' R' LT' B' X' T' st'; (try dsimp only); (try k_fold))
  have N0 := N
  obtain ⟨es, nR, hDR, hgR, hgM⟩ := hDR
  have hDm : (c.dd .R, dictOf es nR) ∈ Md c D ++ rest := List.mem_append_left _ (hDR ▸ Md_mem .R)
  have N2 := News.sub N' (M' := (c.ad .R, oneObj (c.dd .R) c.tR (c.it .R) (.str (Str.ofString "s") (c.nt .R))) :: (c.dd .R, dictOf es nR) :: (Md c D ++ rest)) (List.forall_mem_cons.mpr ⟨List.mem_append_right _ hRm, List.forall_mem_cons.mpr ⟨hDm, fun _ h => h⟩⟩)
  clear F T N N'
  k_steps
  refine Stop.mk ?_
  rename News _ _ _ _ => N3
  k_dflt (refine' w_match (k := 0) (c := c) (D := D) (rest := rest) ?B ?F ?X ?T ?hd ?hu Fi (Nat.zero_le _) RS hj ⟨es, nR, hDR, hgR⟩ ?N dj ?hd3 ?hu3 ?ok ?bad)
  case B => k_asm
  case F => k_asm
  case X => k_asm
  case T => k_asm
  case N => exact News.sub N3 fun p hp => by repeat (first | exact hp | refine List.Mem.tail _ ?_)
  case hd => ((try simp only [depth_mark, depth_deeper, depth_under_make, depth_under_kw, depth_in1]); (try dsimp only [ktrTop]); omega)
  case hu => ((try simp only [units_in1, units_deeper, Around.mark_units]); (try dsimp only [ktrTop]); omega)
  case hd3 => ((try simp only [depth_mark, depth_deeper, depth_under_make, depth_under_kw, depth_in1]); (try dsimp only [ktrTop]); omega)
  case hu3 => ((try simp only [units_in1, units_deeper, Around.mark_units]); (try dsimp only [ktrTop]); omega)
  case bad =>
    intro cache err derr at_ f D' rest' t g h9 tk9 hno F9 U9 R9 dj9 sub9 RS9 len9
    k_steps
    refine leave_onS (g := g') (g₂ := g) B' F9 R9 U9 ?_
    intro h10 R10 _ U10
    exact bad err t g' _ _ h10 _ hno FG' U10 R10 fun p hp => List.mem_append_right _ (sub9 p hp)
  case ok =>
    intro cache err derr at_ f D' rest' nd h9 tk9 hyes F9 N9 dj9 sub9 RS9 len9 hR
    obtain ⟨dn, lc, tS, tE, od, hnd, hod⟩ := hR.obj
    simp only [Nat.sub_zero] at hyes hR hnd
    generalize hW : Md c D' ++ rest' = W at N9 hR hnd hod
    have N10 := News.sub N9 (M' := (nd, nodeObj dn lc (c.ad .R) c.text (.int ((0 : Nat) : Int) tS) (.int (((0 : Nat) : Int) + ((reach c.p c.q c.r c.n).1 : Int)) tE)) :: (dn, od) :: W) (List.forall_mem_cons.mpr ⟨hnd, List.forall_mem_cons.mpr ⟨hod, fun _ h => h⟩⟩)
    clear N9
    k_steps
    · refine Stop.mk ?_
      rename News g' _ _ _ => N11
      rename Fr g' _ _ _ => F11
      refine ⟨_, _, _, rfl, F11.keep, News.get N11 (by k_mem), ?_⟩
      rename AllLt _ W => lA2
      clear lA2
      rename AllLt _ W => lA1
      refine leave_raiseI (rest := []) (news := W) B' F11 (News.sub N11 (List.forall_mem_cons.mpr ⟨by k_mem, List.forall_mem_cons.mpr ⟨by k_mem, fun p hp => by repeat (first | exact hp | refine List.Mem.tail _ ?_)⟩⟩)) (allLt_lt lA1 (by assumption)) (allLt_at lA1) (fun _ h => nomatch h) ?_ rfl
      intro h12 R12 U12
      subst hW
      exact part _ _ g' _ _ h12 _ hyes (by omega) FG' U12 R12 fun p hp => List.mem_append_left _ (List.mem_append_right _ (sub9 p hp))
    · rename News h₀ _ _ _ => N11
      rename Fr h₀ _ _ _ => F11
      have hle : (reach c.p c.q c.r c.n).1 ≤ c.n := reach_le _ _ _ _
      subst hW
      exact ok cache err derr at_ D' rest' nd _ _ (by omega) (by omega) F11 (News.sub N11 fun p hp => by repeat (first | exact hp | refine List.Mem.tail _ ?_)) sub9 (by simpa using hR)
end Mine
end
section
open PySem PySem.W PyProof.Rows PySem.Calls PySem.Spec
set_option Elab.async false
set_option maxRecDepth 100000
set_option maxHeartbeats 8000000
namespace Mine
theorem prime_parsed : (fun (_ : OpenLaw) (_ : Params → Frag) => True) PySem.Challenge.rw_vj0018_01 hd.heap_39 := by
  w_top off
  k_fill
  trivial
local macro_rules | `(tactic| k_room) => `(tactic| first
  | ((try simp only [depth_mark, depth_under_make, depth_under_kw, depth_in1, depth_deeper, depth_caller]); decide)
  | ((try simp only [depth_mark, depth_under_make, depth_under_kw, depth_in1, depth_deeper, depth_caller]); (try dsimp only [ktrTop]); (simp only [recursionLimit] at *); omega))
local macro_rules | `(tactic| k_units) => `(tactic| first
  | exact Nat.le_of_ble_eq_true rfl
  | (have hcL9 := cLine_is; (try simp only [units_in1, units_deeper, Around.mark_units, units_caller] at *); (try dsimp only [ktrTop] at *); omega))
local macro_rules | `(tactic| walk_at "call ref") => `(tactic| (k_here; ks_any; k_dflt (
   (refine' call_cls ?k1 ?k2 ?k3 ?k4 ?k5 ?k6 ?_; (case k1 => k_asm); (case k2 => k_asm); (case k3 => k_asm); (case k4 => k_is); (case k5 => k_is); (case k6 => k_is); intro x' d' h' F' N' l1 l2; (try k_lt l1); (try k_lt2 l2);
    (refine' ks_code_super ?k1 ?k2 ?k3 ?k4 ?k5 ?kA ?kF ?kK ?k6 ?k7 ?k8 ?k9 ?kB ?_ ?c1 ?c2 ?c3 ?c4; (case kA => exact rfl); (case kF => exact rfl); (case kK => exact rfl); (case k1 => k_asm); (case k2 => k_asm); (case k3 => k_asm); (case k4 => k_asm); (case k5 => k_asm); (case k6 => k_is); (case k7 => k_is); (case k8 => k_room); (case k9 => exact binds_K (by k_in) rfl (by k_is) rfl rfl rfl); (case kB => exact locs rfl); (case c1 => decide); (case c2 => exact rfl); (case c3 => exact rfl); (case c4 => exact rfl); intro g' L' h' FG' F' N' B' X' T' l1; (try k_lt l1); (try dsimp only); (try k_lift B'))))))
local macro_rules | `(tactic| k_inst) => `(tactic| first
  | (refine' InstAt.of_news ?N ?h1 ?h2; (case N => k_asm); (case h1 => k_mem); (case h2 => k_mem))
  | (refine' instB ?F ?h1 ?N ?h2; (case F => k_asm); (case h1 => assumption); (case N => k_asm); (case h2 => k_mem))
  | (refine' instBB ?F ?h1 ?h2; (case F => k_asm); (case h1 => assumption); (case h2 => assumption)))
local macro_rules | `(tactic| walk_at "call builtin:getattr") => `(tactic| (k_here; (with_reducible show wpAny _ _ (call (Value.builtin _) [Value.ref _, Value.str _ _, _]) _ _ _); k_dflt (first
  | (refine' ga3_own ?F ?X ?I ?g ?hh ?ha ?hn ?hl ?hv ?hm ?nm ?_; (case I => k_inst); (case F => k_asm); (case X => k_asm); (case g => k_is); (case hh => k_is); (case ha => k_is); (case hn => k_is); (case hl => k_get); (case hv => k_handed); (case hm => k_is); (case nm => decide); k_whole)
  | (refine' ga3_no ?F ?X ?N ?I ?hA ?g ?hh ?ha ?hl ?hm ?nm ?hc ?hcn ?cp ?ms ?_; (case I => k_inst); (case F => k_asm); (case X => k_asm); (case N => k_asm); (case hA => exact rfl); (case g => k_is); (case hh => k_is); (case ha => k_is); (case hl => k_get); (case hm => k_is); (case nm => decide); (case hc => k_is); (case hcn => decide +kernel); (case cp => decide +kernel); (case ms => decide +kernel); k_whole; intro h' tk' F' N'; (try k_sweep)))))
local macro_rules | `(tactic| walk_at "call builtin:len") => `(tactic| (k_here; (with_reducible show wpAny _ _ (call (Value.builtin "len") [Value.ref _]) _ _ _); k_dflt (refine' kda_len (knd := PySem.intKind _ _) ?N ?m ?d ?lo ?fit ?_; (case N => k_asm); (case m => k_mem); (case d => assumption); (case lo => assumption); (case fit => first | omega | (simp only [List.length_append, List.length_cons, List.length_nil]; omega)); k_whole)))
local macro_rules | `(tactic| walk_at "setItem ref int") => `(tactic| (k_here; k_dflt (refine' kda_set (knd := PySem.intKind _ _) ?F ?N ?U ?d (intKind_is _ _ _ _) ?z ?_; (case F => k_asm); (case N => k_asm); (case U => k_updF); (case d => assumption); (case z => (rw [sizeLine_eq]; first | omega | (simp only [List.length_append, List.length_cons, List.length_nil]; omega))); k_whole); intro h' o' F' N' hd'; (try dsimp only at N'); (try rw [stored_new (by assumption)] at hd'); (try k_sweep)))
local macro_rules | `(tactic| walk_at "compareOp In int ref") => `(tactic| (k_here; k_dflt (first
  | (refine' mp_in0 (knd := PySem.intKind _ _) ?N ?m ?d ?lo (intKind_is _ _ _ _) ?hl ?_; (case N => k_asm); (case m => k_mem); (case d => assumption); (case lo => assumption); (case hl => assumption); k_whole)
  | (refine' mp_in1 (knd := PySem.intKind _ _) ?N ?m ?d ?lo (intKind_is _ _ _ _) ?hl ?_; (case N => k_asm); (case m => k_mem); (case d => assumption); (case lo => assumption); (case hl => assumption); k_whole))))
local macro_rules | `(tactic| walk_at "subscriptTail") => `(tactic| (k_here; (with_reducible show wpAny _ _ (subscriptTail _ _ (Value.ref _) (Value.int _ _)) _ _ _); k_dflt (refine' kda_item (knd := PySem.intKind _ _) ?N ?m ?d (intKind_is _ _ _ _) ?hl ?_ ?hs ?hg; (case N => k_asm); (case m => k_mem); (case d => assumption); (case hl => assumption); (case hs => with_unfolding_all rfl); (case hg => (intro _; with_unfolding_all rfl)); k_whole)))
local macro_rules | `(tactic| walk_at "getMethod ref") => `(tactic| (k_here; (with_reducible show wpAny _ _ (getMethod (Value.ref _) (Str.ofString "get") _) _ _ _); k_dflt (refine' kdg_method (knd := PySem.intKind _ _) ?N ?m ?d ?_; (case N => k_asm); (case m => k_mem); (case d => assumption); k_whole)))
local macro_rules | `(tactic| walk_at "call builtin:dict.get") => `(tactic| (k_here; k_dflt (refine' kdg_get1 (knd := PySem.intKind _ _) ?N ?m ?d ?lo (intKind_is _ _ _ _) _ ?hl ?_; (case N => k_asm); (case m => k_mem); (case d => assumption); (case lo => assumption); (case hl => assumption); k_whole); (try dsimp only [Option.getD])))
local macro_rules | `(tactic| walk_at "getAttr ref") => `(tactic| (k_here; k_dflt (refine' exc_getK ?F ?X ?I ?ga ?gt ?hb ?hh ?ha ?hn ?hl ?hv ?_; (case I => (first | (refine' instE ?iN ?i1 ?i2; (case iN => k_asm); (case i1 => k_mem); (case i2 => k_mem)) | (refine' instEB ?iF ?i1 ?iN ?i2; (case iF => k_asm); (case i1 => assumption); (case iN => k_asm); (case i2 => k_mem)))); (case F => k_asm); (case X => k_asm); (case ga => k_is); (case gt => k_is); (case hb => k_is); (case hh => k_is); (case ha => k_is); (case hn => k_is); (case hl => k_get); (case hv => k_handed); k_whole)))
local macro_rules | `(tactic| walk_at "setAttr ref") => `(tactic| (k_here; k_dflt (first
  | (refine' exc_setK ?F ?X ?N ?I ?hd ?hs ?hc ?hp ?hdd ?ho ?ht ?hl ?e ?U ?hz ?_; (case I => (first | (refine' instE ?iN ?i1 ?i2; (case iN => k_asm); (case i1 => k_mem); (case i2 => k_mem)) | (refine' instEB ?iF ?i1 ?iN ?i2; (case iF => k_asm); (case i1 => assumption); (case iN => k_asm); (case i2 => k_mem)))); (case F => k_asm); (case X => k_asm); (case N => k_asm); (case hd => exact rfl); (case hs => k_is); (case hc => k_is); (case hp => first | exact pass87 _ | exact pass125 _); (case hdd => exact rfl); (case ho => k_is); (case ht => k_is); (case hl => k_get); (case e => k_put); (case U => k_upd); (case hz => exact Nat.le_of_ble_eq_true rfl); k_whole; intro h' F' N'; (try k_sweep))
  | (refine' exc_set0K ?F ?X ?N ?hs ?hc ?hp ?hdd ?ho ?ht ?U ?_; (case F => k_asm); (case X => k_asm); (case N => k_asm); (case U => (intro d'; k_upd)); (case hs => k_is); (case hc => k_is); (case hp => first | exact pass87 _ | exact pass125 _); (case hdd => exact rfl); (case ho => k_is); (case ht => k_is); k_whole; intro d' h' F' N' l1; (try k_lt l1); (try k_sweep)))))
local macro_rules | `(tactic| walk_at "call ref") => `(tactic| (k_here; k_dflt (refine' exc_callK ?F ?X ?N ?hC ?a ?b ?c ?d ?e ?f ?g ?hr ?_; (case F => k_asm); (case X => k_asm); (case N => k_asm); (case hC => k_is); (case a => decide +kernel); (case b => decide +kernel); (case c => decide +kernel); (case d => k_is); (case e => k_is); (case f => k_is); (case g => k_is); (case hr => exact Nat.le_of_ble_eq_true rfl); k_whole; intro x' t' h' F' N' l1 l2; (try k_lt l1); (try k_lt2 l2); (try k_sweep); k_enter)))
local macro_rules | `(tactic| walk_at "call builtin:getattr") => `(tactic| (k_here; (with_reducible show wpAny _ _ (call (Value.builtin _) [Value.none, Value.str _ _, _]) _ _ _); k_dflt (refine' ga3_noneK ?F ?N ?hA ?nm ?hm ?hz ?_; (case F => k_asm); (case N => k_asm); (case hA => exact rfl); (case nm => decide); (case hm => exact am_miss_of_fast (by kernel_rfl)); (case hz => (rw [sizeLine_eq]; decide)); k_whole; intro h' tk' F' N'; (try k_sweep))))
local macro_rules | `(tactic| walk_at "call builtin:getattr") => `(tactic| (k_here; (with_reducible show wpAny _ _ (call (Value.builtin _) [Value.ref _, Value.str (Str.ofString "name") _, _]) _ _ _); k_dflt (refine' ga_nameK ?F ?X ?N ?e ?d ?_; (case F => k_asm); (case X => k_asm); (case N => k_asm); (case e => assumption); (case d => (first | assumption | (repeat (first | assumption | refine List.Mem.tail _ ?_)))); k_whole; intro nm' tk')))
local macro_rules | `(tactic| walk_at "setAttr ref") => `(tactic| (k_here; (with_reducible show wpAny _ _ (setAttr (Value.ref _) (Str.ofString "expr") _) _ _ _); k_dflt (refine' er_set_expr ?F ?X ?N ?I ?hd ?U ?_; (case I => (first | (refine' instE ?iN ?i1 ?i2; (case iN => k_asm); (case i1 => k_mem); (case i2 => k_mem)) | (refine' instEB ?iF ?i1 ?iN ?i2; (case iF => k_asm); (case i1 => assumption); (case iN => k_asm); (case i2 => k_mem)))); (case F => k_asm); (case X => k_asm); (case N => k_asm); (case hd => exact rfl); (case U => k_upd); k_whole; intro h' F' N'; (try k_sweep))))
local macro_rules | `(tactic| walk_at "setAttr ref") => `(tactic| (k_here; (with_reducible show wpAny _ _ (setAttr (Value.ref _) (Str.ofString "pos") _) _ _ _); k_dflt (refine' er_set_pos ?F ?X ?N ?I ?hd ?U ?_; (case I => (first | (refine' instE ?iN ?i1 ?i2; (case iN => k_asm); (case i1 => k_mem); (case i2 => k_mem)) | (refine' instEB ?iF ?i1 ?iN ?i2; (case iF => k_asm); (case i1 => assumption); (case iN => k_asm); (case i2 => k_mem)))); (case F => k_asm); (case X => k_asm); (case N => k_asm); (case hd => exact rfl); (case U => k_upd); k_whole; intro h' F' N'; (try k_sweep))))
local macro_rules | `(tactic| k_all) => `(tactic| first | (refine ?_; assumption) | exact allLt_at (by assumption) | exact allLt_lt (by assumption) (ltN (by (try dsimp only); omega)))
local macro_rules | `(tactic| k_lt $h:ident) => `(tactic| (replace $h := allLt_of $h; (simp only [AllLt, and_true] at $h:ident); (repeat (refine And.elim ?_ $h; clear $h; intro _ $h))))
local macro_rules | `(tactic| walk_at "call ref") => `(tactic| (k_here; (with_reducible show wpAny _ _ (call (Value.ref 282) _ _) _ _ _); (refine Stop.go ?_)))
local macro_rules | `(tactic| k_get) => `(tactic| (refine ?_; assumption))
local macro_rules | `(tactic| walk_at "call builtin:len") => `(tactic| (k_here; (with_reducible show wpAny _ _ (call (Value.builtin "len") [Ctx.text _]) _ _ _); k_dflt (refine' len_text ?Fi ?_; (case Fi => assumption); k_whole)))
theorem w_parsed {w : World} {dp un : Nat} {gd : Option (List Code)} {cn : Str} {sn : List (Str × NameKind)} {sg sc : Bool} {sm : List (Str × Const)} {a : Addr} {ccd : Value} {A₀ : Around} {h₀ : Heap} {L : Addr} {m : Str → Option Value} {s : Shared}
  {p : Program} {loose : List Str} {mean : ExcName → Option Value} {mg mb : Str → Option Value} {Q E : Value → Shared → Prop}
  (B : Below A₀ h₀ [] h₀) (F : Fr h₀ L s.heap m) (X : (hd.heap_39 w.params).In h₀) (T : Top p loose mean mg mb h₀)
  (hd : dp + 20 < recursionLimit) (hu : un + 160 < cLine)
  {c : Ctx} {D : Ex → Obj} {rest : List (Addr × Obj)} {rr : Int} {t1 : Tok} (Fi : c.Fine) (hrr : rr = ((reach c.p c.q c.r c.n).1 : Int)) (hRm : (c.ad .R, c.ob .R) ∈ rest)
  (RS : RSt c D (Kn h₀ rest)) (hj : ∀ e, (c.its e).length ≤ 99) (hDR : ∃ es n, D .R = dictOf es n ∧ getL (Str.ofString "match_core") es = some none ∧ getL (Str.ofString "match") es = some none ∧ getL (Str.ofString "parse") es = some none)
  (N : News h₀ L s.heap (Md c D ++ rest)) (dj : ∀ p ∈ Md c D, ∀ q ∈ rest, p.1 ≠ q.1) (hd3 : dp + 400 < recursionLimit) (hu3 : un + 3000 < cLine)
  (ret : ∀ h' tk', Fr h₀ L h' m → News h₀ L h' rest → Q (.bool true) ⟨h', s.gens, s.drawn, tk', s.os⟩)
  : wpAny (model PySem.Challenge.rw_vj0018_01.row.prog w) (ktrTop dp un gd cn ⟨.function, sn, sg, sc, sm⟩ L a ccd [] []) (call (.ref 521) [.ref (c.ad .R), c.text, .int rr t1]) Q E s := by
  obtain ⟨es, nR, hDR, hgR, hgM, hgP⟩ := hDR
  have hDm : (c.dd .R, dictOf es nR) ∈ Md c D ++ rest := List.mem_append_left _ (hDR ▸ Md_mem .R)
  have N2 := News.sub N (M' := (c.ad .R, oneObj (c.dd .R) c.tR (c.it .R) (.str (Str.ofString "s") (c.nt .R))) :: (c.dd .R, dictOf es nR) :: (Md c D ++ rest)) (List.forall_mem_cons.mpr ⟨List.mem_append_right _ hRm, List.forall_mem_cons.mpr ⟨hDm, fun _ h => h⟩⟩)
  have hle : (reach c.p c.q c.r c.n).1 ≤ c.n := reach_le _ _ _ _
  clear N
  k_steps
  refine Stop.mk ?_
  rename News _ _ _ _ => N3
  k_dflt (refine' w_parse (c := c) (D := D) (rest := rest) ?B1 ?F1 ?X1 ?T1 ?d1 ?u1 Fi hRm RS hj ⟨es, nR, hDR, hgR, hgM⟩ ?N1 dj ?dd1 ?uu1 ?ok1 ?bad1 ?part1)
  case B1 => k_asm
  case F1 => k_asm
  case X1 => k_asm
  case T1 => k_asm
  case N1 => exact News.sub N3 fun p hp => by repeat (first | exact hp | refine List.Mem.tail _ ?_)
  case d1 => ((try simp only [depth_mark, depth_deeper, depth_under_make, depth_under_kw, depth_in1]); (try dsimp only [ktrTop]); omega)
  case u1 => ((try simp only [units_in1, units_deeper, Around.mark_units]); (try dsimp only [ktrTop]); omega)
  case dd1 => ((try simp only [depth_mark, depth_deeper, depth_under_make, depth_under_kw, depth_in1]); (try dsimp only [ktrTop]); omega)
  case uu1 => ((try simp only [units_in1, units_deeper, Around.mark_units]); (try dsimp only [ktrTop]); omega)
  case bad1 =>
    intro err t g vs news' h9 tk9 hno F9 U9 R9 sub9
    have hr0 : rr = 0 := by omega
    subst hr0
    clear N3 hrr
    k_steps
    rename Fr h₀ _ _ _ => F11
    rename News h₀ _ _ _ => N11
    exact ret _ _ F11 (News.sub N11 sub9)
  case part1 =>
    intro err t g vs news' h9 tk9 hp1 hp2 F9 U9 R9 sub9
    clear N3
    k_steps
    rename Fr h₀ _ _ _ => F11
    rename News h₀ _ _ _ => N11
    rw [decide_eq_true (show rr < (c.n : Int) by omega)]
    exact ret _ _ F11 (News.sub N11 sub9)
  case ok1 =>
    intro cache err derr at_ D' rest' nd h9 tk9 hn hn0 F9 N9 sub9 hR
    obtain ⟨dn, lc, tS, tE, od, hnd, hod⟩ := hR.obj
    generalize hW : Md c D' ++ rest' = W at N9 hnd hod
    have N10 := News.sub N9 (M' := (nd, nodeObj dn lc (c.ad .R) c.text (.int 0 tS) (.int ((reach c.p c.q c.r c.n).1 : Int) tE)) :: (dn, od) :: W) (List.forall_mem_cons.mpr ⟨hnd, List.forall_mem_cons.mpr ⟨hod, fun _ h => h⟩⟩)
    clear N9 N3
    k_steps
    · rename Fr h₀ _ _ _ => F11
      rename News h₀ _ _ _ => N11
      rw [show (rr == (c.n : Int)) = true from beq_iff_eq.mpr (by omega)]
      subst hW
      exact ret _ _ F11 (News.sub N11 fun p hp => .tail _ (.tail _ (List.mem_append_right _ (sub9 p hp))))
    · exfalso; omega
end Mine
end
section
open PySem PySem.W PyProof.Rows PySem.Calls PySem.Spec
set_option Elab.async false
set_option maxRecDepth 100000
set_option maxHeartbeats 4000000
namespace Mine
/-- an iterator over a tuple -/
def ItL (o : Obj) (ax : Addr) (i : Nat) : Prop := o.cls = .type "list_iterator" ∧ o.data = .fields #[.ref ax, .int i 0]
section
variable (prog : Program) (w : World) (A : Around) (E : Value → Shared → Prop) (h₀ : Heap) (env : Env) (target : Expr) (body orelse : List Stmt) (Q : Flow → Shared → Prop)
  (I ax : Addr) (items : Array Value) (G : Array GenState) (D : Drawn) (O : OsState)
/-- the turns of a for over a tuple, one after another -/
def LstTurns : List Value → Nat → (Str → Option Value) → List (Addr × Obj) → Prop
  | [], _, m, news => ∀ h tk, Fr h₀ env.locals h m → News h₀ env.locals h news → wpAny (model prog w) A (execs orelse env) Q E ⟨h, G, D, tk, O⟩
  | v :: r, i, m, news => ∀ h tk oi, Fr h₀ env.locals h m → News h₀ env.locals h ((I, oi) :: news) → ItL oi ax (i + 1) →
      wpAny (model prog w) A (assign target env v) (fun _ s₂ => wpAny (model prog w) A (execs body env) (fun f s₃ => match f with
        | .ret v => Q (.ret v) s₃
        | .brk => Q .next s₃
        | _ => Stop (∃ h' tk' m' news', s₃ = ⟨h', G, D, tk', O⟩ ∧ Fr h₀ env.locals h' m' ∧ News h₀ env.locals h' ((I, oi) :: news') ∧ (∀ p ∈ news', p.1 ≠ I) ∧ h'.IsList ax items ∧ LstTurns r (i + 1) m' news')) E s₂) E ⟨h, G, D, tk, O⟩
end
section
variable {prog : Program} {w : World} {A : Around} {E : Value → Shared → Prop} {h₀ : Heap} {env : Env} {target : Expr} {body orelse : List Stmt} {Q : Flow → Shared → Prop} {s : Shared}
theorem lstTurns_run {I ax : Addr} {vs : List Value} {G : Array GenState} {D : Drawn} {O : OsState} {R : Result → Shared → Prop} {m : Str → Option Value} {news : List (Addr × Obj)} {h : Heap} {tk : Nat}
    (hh : A.handled = none) (hne : ax ≠ I) (hit : h.IsListIter I ax 0) (ht : h.IsList ax vs.toArray) (hfresh : h₀.get? I = none) (hIL : I ≠ env.locals) (hoff : ∀ p ∈ news, p.1 ≠ I)
    (F : Fr h₀ env.locals h m) (N : News h₀ env.locals h news)
    (hT : LstTurns prog w A (notedBy (model prog w) A env fun e s' => R (.error e) s') h₀ env target body orelse (fun f s' => R (.ok f) s') I ax vs.toArray G D O vs 0 m news) :
    codeAny (model prog w) A (.forLoop target (.ref I) body orelse env) R ⟨h, G, D, tk, O⟩ := by
  refine codeAny_forLoop_any
    (fun k s' => ∃ h' tk' m' news' i, s' = ⟨h', G, D, tk', O⟩ ∧ h'.IsListIter I ax i ∧ h'.IsList ax vs.toArray ∧ Fr h₀ env.locals h' m' ∧ News h₀ env.locals h' news' ∧ (∀ p ∈ news', p.1 ≠ I) ∧ i ≤ vs.length ∧ k = vs.length + 1 - i ∧
      LstTurns prog w A (notedBy (model prog w) A env fun e s' => R (.error e) s') h₀ env target body orelse (fun f s' => R (.ok f) s') I ax vs.toArray G D O (vs.drop i) i m' news') ?_ (vs.length + 1)
    ⟨h, tk, m, news, 0, rfl, hit, ht, F, N, hoff, Nat.zero_le _, rfl, by simpa using hT⟩
  rintro k s' ⟨h', tk', m', news', i, rfl, hit', ht', F', N', hoff', hi, rfl, hT'⟩
  have next : ∀ h₁ : Heap, Heap.ExtBut I h' h₁ → Fr h₀ env.locals h₁ m' ∧ News h₀ env.locals h₁ news' := fun h₁ hk₁ =>
    ⟨⟨F'.ns.at' fun o e => hk₁ _ o (Ne.symm hIL) e, fun b o e => hk₁ b o (fun q => by rw [q, hfresh] at e; cases e) (F'.keep b o e), F'.above⟩, fun p hp => ⟨hk₁ _ _ (hoff' p hp) (N' p hp).1, (N' p hp).2⟩⟩
  by_cases hlt : i < vs.length
  · obtain ⟨v, hv⟩ : ∃ v, vs[i]? = some v := ⟨vs[i], by simp [hlt]⟩
    have hd : vs.drop i = v :: vs.drop (i + 1) := by
      rw [List.drop_eq_getElem_cons hlt]
      have : vs[i] = v := by
        have := List.getElem?_eq_getElem hlt
        rw [hv] at this; exact (Option.some.inj this).symm
      rw [this]
    rw [hd] at hT'
    refine wpAny_pyNext_list_item (x := v) hit' ht' (by simpa using hv) fun h₁ hit₁ hs₁ => ?_
    obtain ⟨F₁, N₁⟩ := next h₁ hs₁.extBut
    refine letGo_listiter (i := i + 1) (t := ax) hit₁ ?_
    obtain ⟨oi, hoi, hc, hdat⟩ := id hit₁
    refine wpAny_mono (hT' h₁ tk' oi F₁ ?_ ⟨hc, by simpa using hdat⟩) (fun _ s₂ h₂ => wpAny_mono h₂ (fun f s₃ h₃ => ?_) fun _ _ e => e) fun _ _ e => e
    · intro p hp
      rcases List.mem_cons.mp hp with rfl | hp
      · exact ⟨hoi, hIL, hfresh⟩
      · exact N₁ p hp
    · cases f with
      | ret v => exact h₃
      | brk => exact h₃
      | next =>
        obtain ⟨⟨h₄, tk₄, m₄, news₄, rfl, F₄, N₄, ho₄, ht₄, hT₄⟩⟩ := h₃
        exact ⟨vs.length + 1 - (i + 1), by omega, h₄, tk₄, m₄, news₄, i + 1, rfl, ⟨oi, (N₄ _ (.head _)).1, hc, hdat⟩, ht₄, F₄, (fun p hp => N₄ p (.tail _ hp)), ho₄, hlt, rfl, hT₄⟩
      | cont =>
        obtain ⟨⟨h₄, tk₄, m₄, news₄, rfl, F₄, N₄, ho₄, ht₄, hT₄⟩⟩ := h₃
        exact ⟨vs.length + 1 - (i + 1), by omega, h₄, tk₄, m₄, news₄, i + 1, rfl, ⟨oi, (N₄ _ (.head _)).1, hc, hdat⟩, ht₄, F₄, (fun p hp => N₄ p (.tail _ hp)), ho₄, hlt, rfl, hT₄⟩
  · have hin : i = vs.length := by omega
    subst hin
    rw [List.drop_length] at hT'
    refine wpAny_pyNext_list_end hh hit' ht' (by simp) fun h₁ he₁ => ?_
    obtain ⟨F₁, N₁⟩ := next h₁ he₁
    exact hT' h₁ tk' F₁ N₁
theorem LstTurns.mono {I ax : Addr} {items : Array Value} {G : Array GenState} {D : Drawn} {O : OsState} {E E' : Value → Shared → Prop} {Q Q' : Flow → Shared → Prop} (hE : ∀ e s', E e s' → E' e s') (hQ : ∀ f s', Q f s' → Q' f s') :
    ∀ (vs : List Value) (i : Nat) (m : Str → Option Value) (news : List (Addr × Obj)), LstTurns prog w A E h₀ env target body orelse Q I ax items G D O vs i m news → LstTurns prog w A E' h₀ env target body orelse Q' I ax items G D O vs i m news
  | [], _, _, _, x => fun h tk F N => wpAny_mono (x h tk F N) hQ hE
  | v :: r, i, m, news, x => fun h tk oi F N hi => wpAny_mono (x h tk oi F N hi) (fun _ s₂ h₂ => wpAny_mono h₂ (fun f s₃ h₃ => by
      cases f with
      | ret v => exact hQ _ _ h₃
      | brk => exact hQ _ _ h₃
      | next =>
        obtain ⟨⟨h', tk', m', news', a, b, c, d, e, f⟩⟩ := h₃
        exact ⟨⟨h', tk', m', news', a, b, c, d, e, LstTurns.mono hE hQ r _ _ _ f⟩⟩
      | cont =>
        obtain ⟨⟨h', tk', m', news', a, b, c, d, e, f⟩⟩ := h₃
        exact ⟨⟨h', tk', m', news', a, b, c, d, e, LstTurns.mono hE hQ r _ _ _ f⟩⟩) hE) hE
def LstHere (prog : Program) (w : World) (A : Around) (E : Value → Shared → Prop) (h₀ : Heap) (env : Env) (target : Expr) (body orelse : List Stmt) (Q : Flow → Shared → Prop) (xv : Value) (s₁ : Shared) : Prop :=
  ∃ ax vs m news, xv = .ref ax ∧ s₁.heap.IsList ax vs.toArray ∧ Fr h₀ env.locals s₁.heap m ∧ News h₀ env.locals s₁.heap news ∧
      ∀ I, (∀ p ∈ news, p.1 < I) → LstTurns prog w A E h₀ env target body orelse Q I ax vs.toArray s₁.gens s₁.drawn s₁.os vs 0 m news
theorem LstHere.of {ax : Addr} {vs : List Value} {m : Str → Option Value} {news : List (Addr × Obj)} {s₁ : Shared} (F : Fr h₀ env.locals s₁.heap m) (N : News h₀ env.locals s₁.heap news) (ht : s₁.heap.IsList ax vs.toArray)
    (h : ∀ I, (∀ p ∈ news, p.1 < I) → LstTurns prog w A E h₀ env target body orelse Q I ax vs.toArray s₁.gens s₁.drawn s₁.os vs 0 m news) :
    LstHere prog w A E h₀ env target body orelse Q (.ref ax) s₁ := ⟨ax, vs, m, news, rfl, ht, F, N, h⟩
theorem for_lst {iter : Expr} {pos : Pos} (hh : A.handled = none)
    (h : wpAny (model prog w) A (eval iter env) (LstHere prog w A E h₀ env target body orelse Q) E s)
    (hs : ∀ x, foldedSetIterable iter env x = pure x := by intro _; rfl)
    (hE : PassesOwn (model prog w) A env E := by passes_own) :
    wpAny (model prog w) A (exec (.For target iter body orelse pos) env) Q E s := by
  refine wpAny_For (wpAny_mono h (fun xv s₁ h₁ => ?_) fun _ _ e => e) hs
  obtain ⟨ax, vs, m, news, rfl, ht, F, N, hT⟩ := h₁
  obtain ⟨hp, g, d, tk, os⟩ := s₁
  refine wpAny_pyIter_list ht ?_
  dsimp only at ht F N hT ⊢
  have hlt : ax < hp.objs.size := Heap.lt_size ht.choose_spec.1
  refine lstTurns_run (m := m) (news := news) hh (Nat.ne_of_lt hlt) ⟨_, Heap.get?_push_size _ rfl, rfl, rfl⟩ (by obtain ⟨o, ho, r⟩ := ht; exact ⟨o, Heap.get?_push_of_some _ ho, r⟩) ?_ ?_ ?_ (F.push _) ?_ (LstTurns.mono hE (fun _ _ q => q) _ _ _ _ (hT hp.objs.size ?_))
  · cases q : h₀.get? hp.objs.size with
    | none => rfl
    | some o => exact absurd (Heap.lt_size (F.keep _ _ q)) (Nat.lt_irrefl _)
  · intro q
    obtain ⟨oL, _, _, hL, _⟩ := F.ns
    have := Heap.lt_size hL
    rw [← q] at this
    exact absurd this (Nat.lt_irrefl _)
  · exact fun p hp' => Nat.ne_of_lt (Heap.lt_size (N p hp').1)
  · exact fun p hp' => ⟨Heap.get?_push_of_some _ (N p hp').1, (N p hp').2⟩
  · exact fun p hp' => Heap.lt_size (N p hp').1
end
end Mine
end
section
open PySem PySem.W PyProof.Rows PySem.Calls PySem.Spec
set_option Elab.async false
set_option maxRecDepth 100000
set_option maxHeartbeats 4000000
namespace Mine
section
variable (prog : Program) (w : World) (A : Around) (elt iter : Expr) (x : Str) (px : Pos) (scope : Scope) (pos : Pos) (cenv : Env) (I tm a D : Addr) (g : Nat) (items : Array Value) (res : Nat → Value) (Inv : Nat → Shared → Prop) (End : Shared → Prop)
abbrev gexp : Expr := .GeneratorExp elt [⟨.Name x px, iter, [], 0⟩] scope pos
/-- the turns of a generator expression over a tuple, with the whole state between them; D is the object that gathers -/
structure GTurns : Prop where
  itr : ∀ i s, Inv i s → s.heap.IsTupleIter I tm i ∧ s.heap.IsTuple tm items
  gens : ∀ i s, Inv i s → g < s.gens.size ∧ s.heap.IsGen a g ∧ s.heap.NoLimit
  set : ∀ i s y, Inv i s → y.bare = true → Inv i (s.setGen g y)
  self : ∀ i s, Inv i s → ∃ o, s.heap.get? D = some o
  upd : ∀ i s h' tk o, Inv i s → Heap.SameBut D s.heap h' → h'.get? D = some o → Inv i { s with heap := h', toks := tk }
  turn : ∀ i v s, items[i]? = some v → Inv i s → ∀ h₁, h₁.IsTupleIter I tm (i + 1) → Heap.SameBut I s.heap h₁ →
    wpAny (model prog w) (A.over (.compLoop (gexp elt iter x px scope pos) 0 (.ref I) .none cenv) []) (assign (.Name x px) cenv v) (fun _ s₂ =>
      wpAny (model prog w) (A.over (.compLoop (gexp elt iter x px scope pos) 0 (.ref I) .none cenv) []) (eval elt cenv) (fun y s₄ => y = res i ∧ Inv (i + 1) s₄ ∧ ∀ o, s.heap.get? D = some o → s₄.heap.get? D = some o) (fun _ _ => False) s₂) (fun _ _ => False) { s with heap := h₁ }
  last : ∀ s h₁, Inv items.size s → Heap.ExtBut I s.heap h₁ → End { s with heap := h₁ } ∧ ∀ o, s.heap.get? D = some o → h₁.get? D = some o
  fin : ∀ s h', End s → (∀ b o, s.heap.get? b = some o → h'.get? b = some o) → End { s.setGen g .finished with heap := h' }
abbrev gR : GenEnd := fun m s₀ r s₁ => r = .ok .next ∧ (m = 0 ∧ End s₁ ∧ ∀ o, s₀.heap.get? D = some o → s₁.heap.get? D = some o)
abbrev gY : Protocol := fun m s₀ v s kap => ∃ i, m + (i + 1) = items.size ∧ v = res i ∧ Inv (i + 1) s ∧ (∀ o, s₀.heap.get? D = some o → s.heap.get? D = some o) ∧ ∀ s'', Inv (i + 1) s'' → kap (.send .none) s''
def GA (i : Nat) (s : Shared) : Prop := Inv i s ∧ ∃ gs, s.gens[g]? = some gs ∧ ∀ s'', Inv i s'' → gs.Goes (model prog w) A (gR D End) (gY D items res Inv) (items.size - i) (.send .none) s''
end
section
variable {prog : Program} {w : World} {A : Around} {elt iter : Expr} {x : Str} {px : Pos} {scope : Scope} {pos : Pos} {cenv : Env} {I tm a D : Addr} {g : Nat} {items : Array Value} {res : Nat → Value} {Inv : Nat → Shared → Prop} {End : Shared → Prop}
theorem seg_T (hh : A.handled = none) (hco : cenv.scope.isCoroutine = false) (G : GTurns prog w A elt iter x px scope pos cenv I tm a D g items res Inv End) :
    ∀ (k i : Nat) (s₀ s : Shared), items.size - i = k → i ≤ items.size → Inv i s → (∀ o, s₀.heap.get? D = some o → s.heap.get? D = some o) →
      Seg (model prog w) A (gR D End) (gY D items res Inv) (items.size - i) s₀ (.compLoop (gexp elt iter x px scope pos) 0 (.ref I) .none cenv) ((model prog w).den (.compLoop (gexp elt iter x px scope pos) 0 (.ref I) .none cenv)) [] s := by
  have hh' : (A.over (.compLoop (gexp elt iter x px scope pos) 0 (.ref I) .none cenv) []).handled = none := hh
  intro k
  induction k with
  | zero =>
    intro i s₀ s hk hi hI hD
    have hin : i = items.size := by omega
    subst hin
    show Seg _ A _ _ _ s₀ _ ((compTurn (gexp elt iter x px scope pos) 0 (.ref I) .none cenv).onRaise (leaving cenv)) [] s
    rw [compTurn_gen, Sem.onRaise_eq_wrap]
    refine seg_bind_wrap (wpAny_standAt ?_)
    obtain ⟨hit, ht⟩ := G.itr _ _ hI
    refine seg_bind_wrap (wpAny_pyNext_tuple_end hh' hit ht (by simp) fun h' hk' => ?_)
    obtain ⟨e1, e2⟩ := G.last _ _ hI hk'
    exact seg_end (.ok .next) ⟨rfl, Nat.sub_self _, e1, fun o e => e2 o (hD o e)⟩
  | succ k ih =>
    intro i s₀ s hk hi hI hD
    have hlt : i < items.size := by omega
    show Seg _ A _ _ _ s₀ _ ((compTurn (gexp elt iter x px scope pos) 0 (.ref I) .none cenv).onRaise (leaving cenv)) [] s
    rw [compTurn_gen, Sem.onRaise_eq_wrap, hk]
    refine seg_bind_wrap (wpAny_standAt ?_)
    obtain ⟨hit, ht⟩ := G.itr _ _ hI
    have hv : items[i]? = some items[i] := by simp [hlt]
    refine seg_bind_wrap (wpAny_pyNext_tuple_item hit ht hv fun h₁ hit₁ hs₁ => ?_)
    refine seg_bind_wrap (wpAny_of_eq (rfl : letOwnedTupleGo (.Name x px) (.ref I) items[i] = pure ()) ?_)
    refine seg_bind_wrap (wpAny_mono (G.turn i _ s hv hI h₁ hit₁ hs₁) (fun _ s₂ h₂ => ?_) fun _ _ e => e.elim)
    refine seg_bind_wrap (wpAny_pure ?_)
    simp only [if_true]
    have hy : ∀ v, yieldOut cenv v = yieldValue v := fun v => by simp only [yieldOut, hco, Bool.false_eq_true, if_false]
    simp only [hy]
    rw [Sem.bind_eq_wrap', Sem.bind_eq_wrap', Sem.wrap_wrap, Sem.wrap_wrap]
    refine seg_wrap (wpAny_mono h₂ (fun y s₄ h₄ => ?_) fun _ _ e => e.elim)
    obtain ⟨rfl, hI', hD'⟩ := h₄
    refine seg_at (seg_yield rfl rfl rfl ⟨i, by omega, rfl, hI', fun o e => hD' o (hD o e), fun s'' hI'' => ?_⟩)
    have hki : items.size - (i + 1) = k := by omega
    have z := ih (i + 1) s'' s'' hki hlt hI'' (fun _ e => e)
    rw [hki] at z
    exact seg_again rfl z
theorem start_T (hh : A.handled = none) (hco : cenv.scope.isCoroutine = false) (G : GTurns prog w A elt iter x px scope pos cenv I tm a D g items res Inv End) (s₀ s : Shared) (hI : Inv 0 s) (hD : ∀ o, s₀.heap.get? D = some o → s.heap.get? D = some o) :
    Seg (model prog w) A (gR D End) (gY D items res Inv) items.size s₀ (.compStart (gexp elt iter x px scope pos) 0 (.ref I) .none cenv) ((model prog w).den (.compStart (gexp elt iter x px scope pos) 0 (.ref I) .none cenv)) [] s := by
  have loop := seg_T hh hco G items.size 0 s₀ s rfl (Nat.zero_le _) hI hD
  rw [Nat.sub_zero] at loop
  show Seg _ A _ _ _ s₀ _ ((compStart (gexp elt iter x px scope pos) 0 (.ref I) .none cenv).onRaise (leaving cenv)) [] s
  unfold compStart
  rw [Sem.onRaise_eq_wrap]
  show Seg _ A _ _ _ s₀ _ ((ask >>= _).wrap _ _ _ _) [] s
  refine seg_bind_wrap (wpAny_askSetting ?_)
  split
  · exact seg_again rfl loop
  · first
      | exact seg_bind_wrap (wpAny_rule (seg_bind_wrap (wpAny_standAt (seg_bind_wrap (wpAny_pyIter_tupleiter (G.itr _ _ hI).1 (seg_again rfl loop))))))
      | (refine seg_bind_wrap (wpAny_rule ?_); show Seg _ A _ _ _ s₀ _ ((standAt iter.pos >>= _).wrap _ _ _ _) [] s; exact seg_bind_wrap (wpAny_standAt (seg_bind_wrap (wpAny_pyIter_tupleiter (G.itr _ _ hI).1 (seg_again rfl loop)))))
theorem GA.fresh (hh : A.handled = none) (hco : cenv.scope.isCoroutine = false) (G : GTurns prog w A elt iter x px scope pos cenv I tm a D g items res Inv End) {s : Shared} (hI : Inv 0 s)
    (hgs : s.gens[g]? = some (.fresh (.compStart (gexp elt iter x px scope pos) 0 (.ref I) .none cenv))) : GA prog w A D g items res Inv End 0 s :=
  ⟨hI, _, hgs, fun s'' hI' => ⟨rfl, start_T hh hco G s'' s'' hI' fun _ e => e⟩⟩
end
section
variable {prog : Program} {w : World} {A : Around} {elt iter : Expr} {x : Str} {px : Pos} {scope : Scope} {pos : Pos} {cenv : Env} {I tm a D : Addr} {g : Nat} {items : Array Value} {res : Nat → Value} {Inv : Nat → Shared → Prop} {End : Shared → Prop} {E : Value → Shared → Prop}
/-- what pyNext does at a turn -/
structure GNext (prog : Program) (w : World) (A : Around) (a D : Addr) (n : Nat) (res : Nat → Value) (St : Nat → Shared → Prop) (End : Shared → Prop) : Prop where
  item : ∀ i (s : Shared) (Q : Option Value → Shared → Prop) (E : Value → Shared → Prop), i < n → St i s →
    (∀ s', St (i + 1) s' → (∀ o, s.heap.get? D = some o → s'.heap.get? D = some o) → Q (some (res i)) s') → wpAny (model prog w) A (pyNext (.ref a)) Q E s
  done : ∀ (s : Shared) (Q : Option Value → Shared → Prop) (E : Value → Shared → Prop), St n s → (∀ s', End s' → (∀ o, s.heap.get? D = some o → s'.heap.get? D = some o) → Q none s') → wpAny (model prog w) A (pyNext (.ref a)) Q E s
  gen : ∀ i (s : Shared), St i s → ∃ g, s.heap.IsGen a g
  upd : ∀ i s h' tk o, St i s → Heap.SameBut D s.heap h' → h'.get? D = some o → St i { s with heap := h', toks := tk }
theorem GNext.of (hh : A.handled = none) (hroom : A.depth < recursionLimit) (G : GTurns prog w A.in1 elt iter x px scope pos cenv I tm a D g items res Inv End) : GNext prog w A a D items.size res (GA prog w A.in1 D g items res Inv End) End where
  item := fun i s Q E hi st hQ => by
    obtain ⟨hI, gs, hgs, hgo⟩ := st
    obtain ⟨_, hg, hl⟩ := G.gens _ _ hI
    obtain ⟨k, hk⟩ : ∃ k, items.size - i = k + 1 := ⟨items.size - i - 1, by omega⟩
    rw [hk] at hgo
    refine wpAny_pyNext_genexpQ (P := fun m s₀ s₁ => m = 0 ∧ End s₁ ∧ ∀ o, s₀.heap.get? D = some o → s₁.heap.get? D = some o) hh hl hroom hg hgs (hgo _ (G.set _ _ _ hI rfl)) (fun v s₁ gs' hb hv => ?_) (fun s₁ hp h' hk' => ?_)
    · obtain ⟨j, hj, rfl, hI', hD', hkap⟩ := hv
      have e : j = i := by omega
      subst e
      have hgz := (G.gens _ _ hI').1
      refine hQ _ ⟨G.set _ _ _ hI' hb, gs', ?_, fun s'' hI'' => ?_⟩ hD'
      · show (s₁.gens.setIfInBounds g gs')[g]? = some gs'
        simp [hgz]
      · have e2 : items.size - (j + 1) = k := by omega
        rw [e2]
        exact hkap s'' hI''
    · exact absurd hp.1 (Nat.succ_ne_zero k)
  done := fun s Q E st hQ => by
    obtain ⟨hI, gs, hgs, hgo⟩ := st
    obtain ⟨_, hg, hl⟩ := G.gens _ _ hI
    rw [Nat.sub_self] at hgo
    refine wpAny_pyNext_genexpQ (P := fun m s₀ s₁ => m = 0 ∧ End s₁ ∧ ∀ o, s₀.heap.get? D = some o → s₁.heap.get? D = some o) hh hl hroom hg hgs (hgo _ (G.set _ _ _ hI rfl)) (fun v s₁ gs' hb hv => ?_) (fun s₁ hp h' hk' => ?_)
    · obtain ⟨j, hj, _, hI', _, hkap⟩ := hv
      exact False.elim (hkap s₁ hI')
    · exact hQ _ (G.fin _ _ hp.2.1 hk') fun o e => hk' _ _ (hp.2.2 o e)
  gen := fun i s st => ⟨g, (G.gens _ _ st.1).2.1⟩
  upd := fun i s h' tk o st hs ho => ⟨G.upd _ _ _ _ _ st.1 hs ho, st.2⟩
variable {n : Nat} {St : Nat → Shared → Prop} {R : Result → Shared → Prop}
theorem extend_T (W : GNext prog w A.in1 a D n res St End) (hn : n ≤ sizeLine) (v : Value) :
    ∀ (k i : Nat) (s : Shared) (c : Nat), n - i = k → i ≤ n → St i s → s.heap.get? D = some { cls := .type "list", dict := none, data := .seq ((List.range i).map res).toArray c, slots := #[] } →
    (∀ s' c', End s' → s'.heap.get? D = some { cls := .type "list", dict := none, data := .seq ((List.range n).map res).toArray c', slots := #[] } → R (.ok (.ret v)) s') →
    codeAny (model prog w) A (.builtin "list.extend.loop" ⟨[.ref D, .ref a, v], []⟩) R s := by
  intro k
  induction k with
  | zero =>
    intro i s c hk hi hst hS hR
    have hin : i = n := by omega
    subst hin
    refine codeAny_builtin PySem.F.entry_extend_loop ?_
    rw [Around.under_plainId PySem.F.plain_extend_loop _]
    show wpAny _ A.in1 (pyNext (.ref a) >>= _) _ _ s
    refine wpAny_bind (W.done s _ _ hst fun s' hE hD => ?_)
    exact wpAny_pure (hR s' c hE (hD _ hS))
  | succ k ih =>
    intro i s c hk hi hst hS hR
    have hlt : i < n := by omega
    refine codeAny_builtin PySem.F.entry_extend_loop ?_
    rw [Around.under_plainId PySem.F.plain_extend_loop _]
    show wpAny _ A.in1 (pyNext (.ref a) >>= _) _ _ s
    refine wpAny_bind (W.item i s _ _ hlt hst fun s' hst' hD => ?_)
    have hS' := hD _ hS
    show wpAny _ A.in1 (updateSeq D (·.push (res i)) >>= _) _ _ _
    refine wpAny_bind ?_
    have hz : ((List.range i).map res).toArray.size = i := by simp
    have hp : ((List.range i).map res).toArray.push (res i) = ((List.range (i + 1)).map res).toArray := by rw [List.push_toArray, List.range_succ, List.map_append]; rfl
    have hget := Heap.get?_update_self (Obj.mapSeq (·.push (res i))) hS' rfl
    obtain ⟨c', hget'⟩ : ∃ c', (s'.heap.update D (Obj.mapSeq (·.push (res i)))).get? D = some { cls := .type "list", dict := none, data := .seq (((List.range i).map res).toArray.push (res i)) c', slots := #[] } := ⟨_, hget⟩
    rw [hp] at hget'
    refine wpAny_updateSeq hS' rfl (wpAny_pure ⟨plainId_quiet PySem.F.plain_extend_loop _, ih (i + 1) _ c' (by omega) hlt (W.upd _ s' _ s'.toks _ hst' (Heap.SameBut.update ..) hget) hget' hR⟩) (by rw [hz]; omega) (by show (((List.range i).map res).toArray.push (res i)).size ≤ sizeLine + 1; rw [Array.size_push, hz]; omega)
abbrev lstD (its : List Value) (c : Nat) : Obj := { cls := .type "list", dict := none, data := .seq its.toArray c, slots := #[] }
theorem collect_T {s : Shared} {Q : List Value → Shared → Prop} (hg : s.heap.IsGen a g) (W : GNext prog w A.in1 a s.heap.objs.size n res St End)
    (hst : ∀ h' tk c, (∀ b o, s.heap.get? b = some o → h'.get? b = some o) → h'.get? s.heap.objs.size = some (lstD [] c) → h'.objs.size = s.heap.objs.size + 1 → St 0 { s with heap := h', toks := tk })
    (hQ : ∀ s', End s' → Q ((List.range n).map res) s') (hn : n ≤ sizeLine) : wpAny (model prog w) A (collect (.ref a)) Q E s := by
  have hSI : s.heap.objs.size ≠ a := by
    obtain ⟨_, _, _, ho, _⟩ := hg
    exact fun e => absurd (Heap.lt_size ho) (e ▸ Nat.lt_irrefl _)
  have hS₁ : (s.heap.push (lstD [] 0)).get? s.heap.objs.size = some (lstD [] 0) := Heap.get?_push_size _ rfl
  have k₁ : ∀ b o, s.heap.get? b = some o → (s.heap.push (lstD [] 0)).get? b = some o := fun b o e => Heap.get?_push_of_some _ e
  have hg₁ := hg.keeps k₁
  unfold collect
  refine wpAny_bind (wpAny_runValue (codeAny_builtin PySem.F.entry_proto_collect ?_))
  rw [Around.under_plainId PySem.F.plain_proto_collect _]
  show wpAny _ A.in1 (newList [] >>= fun l => again (.builtin "list.__iadd__" ⟨[l, .ref a], []⟩)) _ _ s
  refine wpAny_bind (wpAny_newObj_type ?_)
  refine wpAny_pure ⟨plainId_quiet PySem.F.plain_list_iadd _, codeAny_builtin PySem.F.entry_list_iadd ?_⟩
  rw [Around.under_plainId PySem.F.plain_list_iadd _]
  show wpAny _ A.in1 (Builtin.List.listExtendWith (.ref s.heap.objs.size) (.ref a) (.ref s.heap.objs.size)) _ _ { s with heap := s.heap.push (lstD [] 0) }
  unfold Builtin.List.listExtendWith
  refine wpAny_bind (wpAny_typeOf hg₁.typeIs ?_)
  have h1 : Builtin.List.listSameRef (.ref s.heap.objs.size) (.ref a) = false := by simp [Builtin.List.listSameRef, hSI]
  have h2 : (Value.type "generator" == Value.type "list") = false := by decide
  have h3 : (Value.type "generator" == Value.type "tuple") = false := by decide
  simp only [h1, h2, h3, Bool.or_false, Bool.false_eq_true, if_false]
  refine wpAny_bind (wpAny_pyIter_gen hg₁ ?_)
  refine wpAny_bind (wpAny_holding ?_)
  unfold Builtin.List.listLengthHint
  refine wpAny_bind (wpAny_specialOf hg₁.typeIs PySem.F.gen_no_len ?_)
  show wpAny _ A.in1 (specialOf (Value.ref a) (Str.ofString "__length_hint__") >>= _) _ _ _
  refine wpAny_bind (wpAny_specialOf hg₁.typeIs PySem.F.gen_no_hint ?_)
  refine wpAny_pure ?_
  show wpAny _ A.in1 (rule "list.extend.makes-room" >>= fun _ => Builtin.List.listTouch (.ref s.heap.objs.size) >>= fun _ =>
    again (.builtin "list.extend.loop" ⟨[.ref s.heap.objs.size, .ref a, .ref s.heap.objs.size], []⟩)) _ _ _
  refine wpAny_bind (wpAny_rule ?_)
  refine wpAny_bind ?_
  show wpAny _ A.in1 (updateSeq s.heap.objs.size (·.push .none) >>= fun _ => updateSeq s.heap.objs.size (·.pop)) _ _ _
  refine wpAny_bind (wpAny_updateSeq hS₁ rfl ?_)
  have hS₂ := Heap.get?_update_self (Obj.mapSeq (·.push Value.none)) hS₁ rfl
  refine wpAny_updateSeq hS₂ rfl ?_
  have hS₃ := Heap.get?_update_self (Obj.mapSeq (·.pop)) hS₂ rfl
  obtain ⟨c, hS⟩ : ∃ c, (((s.heap.push (lstD [] 0)).update s.heap.objs.size (Obj.mapSeq (·.push Value.none))).update s.heap.objs.size (Obj.mapSeq (·.pop))).get? s.heap.objs.size = some (lstD [] c) := ⟨_, hS₃⟩
  have oth : ∀ b o, s.heap.get? b = some o → (((s.heap.push (lstD [] 0)).update s.heap.objs.size (Obj.mapSeq (·.push Value.none))).update s.heap.objs.size (Obj.mapSeq (·.pop))).get? b = some o := fun b o e => by
    have hb : s.heap.objs.size ≠ b := Nat.ne_of_gt (Heap.lt_size e)
    exact (Heap.get?_update_other _ _ hb).trans ((Heap.get?_update_other _ _ hb).trans (k₁ b o e))
  refine wpAny_pure ⟨plainId_quiet PySem.F.plain_extend_loop _, extend_T W hn _ n 0 _ c rfl (Nat.zero_le _) (hst _ _ c oth hS (by rw [Heap.size_after_update, Heap.size_after_update, Heap.size_push])) hS fun s' c' hE hS' => ?_⟩
  show wpAny _ A (load s.heap.objs.size >>= _) _ _ s'
  refine wpAny_bind (wpAny_load hS' ?_)
  refine wpAny_pure ?_
  have e : ((List.range n).map res).toArray.toList = (List.range n).map res := by simp
  show Q _ _
  first
    | exact hQ s' hE
    | (simp only []; exact hQ s' hE)
theorem tuple_new_T {s : Shared} {Q₁ : Value → Shared → Prop} (hg : s.heap.IsGen a g) (W : GNext prog w A.in1.in1 a s.heap.objs.size n res St End)
    (hst : ∀ h' tk c, (∀ b o, s.heap.get? b = some o → h'.get? b = some o) → h'.get? s.heap.objs.size = some (lstD [] c) → h'.objs.size = s.heap.objs.size + 1 → St 0 { s with heap := h', toks := tk })
    (hQ : ∀ s', End s' → Q₁ (.ref s'.heap.objs.size) { s' with heap := s'.heap.push (tupObj ((List.range n).map res).toArray) }) (hn : n ≤ sizeLine) :
    codeAny (model prog w) A (.call (.builtin "tuple.__new__") ⟨[.type "tuple", .ref a], []⟩) (wants Q₁ E) s := by
  refine codeAny_of_tree ?_
  show wpAny _ A.in1 (do checkBuiltinCall "tuple.__new__" ⟨[.type "tuple", .ref a], []⟩; again (.builtin "tuple.__new__" ⟨[.type "tuple", .ref a], []⟩)) _ _ s
  refine wpAny_bind (wpAny_of_eq (PySem.F.newCall_tuple_1 _) (wpAny_pure ⟨plainId_quiet PySem.F.plain_tuple_new _, codeAny_builtin PySem.F.entry_tuple_new ?_⟩))
  rw [Around.under_plainId PySem.F.plain_tuple_new _]
  have hsub := sub_tuple_self
  have hinit := init_tuple_lookup
  have hmh := madeHere_tuple
  have hTI := hg.typeIs (s := s)
  wp_walk using wpAny_typeOf hTI, collect_T (hn := hn) hg W hst
  intro s' hE
  show wpAny _ _ (Builtin.Tuple.tupleExact ((List.range n).map res).toArray >>= fun v => ret v) _ _ _
  unfold Builtin.Tuple.tupleExact
  refine wpAny_bind (wpAny_newObj_type ?_ (by show ((List.range n).map res).toArray.size ≤ sizeLine; simp; exact hn))
  refine wpAny_pure ?_
  exact hQ s' hE
theorem call_tuple_T {s : Shared} {Q : Value → Shared → Prop} (hg : s.heap.IsGen a g) (W : GNext prog w A.in1.in1.in1 a s.heap.objs.size n res St End)
    (hst : ∀ h' tk c, (∀ b o, s.heap.get? b = some o → h'.get? b = some o) → h'.get? s.heap.objs.size = some (lstD [] c) → h'.objs.size = s.heap.objs.size + 1 → St 0 { s with heap := h', toks := tk })
    (hQ : ∀ s', End s' → Q (.ref s'.heap.objs.size) { s' with heap := s'.heap.push (tupObj ((List.range n).map res).toArray) }) (hn : n ≤ sizeLine) :
    wpAny (model prog w) A (call (.type "tuple") [.ref a]) Q E s := by
  refine callType_codes (Q₁ := fun obj s₁ => s₁.TypeIs obj "tuple" ∧ Q obj s₁) PySem.F.called_tuple (PySem.F.typeCall_tuple_1 _) PySem.F.entry_object_init
    (tuple_new_T hg W hst (fun s' hE => ⟨⟨_, Heap.get?_push_size _ rfl, rfl⟩, hQ s' hE⟩) hn) fun obj s₁ h₁ => ?_
  exact ⟨h₁.1, PySem.F.args_object_init_2 obj _, object_init_meets PySem.F.called_tuple.init.lookup PySem.F.called_tuple.made (by decide) prog w A.in1 _ s₁ ⟨h₁.1, rfl, h₁.2⟩⟩
end
end Mine
end
section
open PySem PySem.W PyProof.Rows PySem.Calls PySem.Spec
set_option Elab.async false
set_option maxRecDepth 100000
set_option maxHeartbeats 1000000
namespace Mine
abbrev itO (tm : Addr) (i : Nat) : Obj := { cls := .type "tuple_iterator", data := .fields #[.ref tm, .int i 0] }
abbrev genO (g : Nat) (t1 t2 : Tok) (q : Str) : Obj := { cls := .type "generator", data := .fields #[.int g 0, .str "<genexpr>" t1, .str q t2] }
section
variable {prog : Program} {w : World} {A : Around} {E : Value → Shared → Prop} {s : Shared} {h₀ : Heap} {L a c P : Addr} {m mg mb : Str → Option Value} {cn : Str} {cs : Scope} {ccd : Value} {cl cl' : List (Str × Addr)} {news : List (Addr × Obj)}
  {p : Program} {loose : List Str} {mean : ExcName → Option Value} {scope : Scope} {ps : Array Value} {pos : Pos} {elt iter : Expr} {target : Expr} {tm : Addr} {items : Array Value}
theorem gen_makeK {Q : Value → Shared → Prop} (F : Fr h₀ L s.heap m) (N : News h₀ L s.heap ((P, tabObj ps) :: news)) (T : Top p loose mean mg mb h₀) (C₀ : CodeHd h₀ c P) (hcd : ccd = .ref c) (ht : TriplesOk ps.toList) (hne : ∀ q ∈ news, q.1 ≠ P)
    (htm : (tm, tupObj items) ∈ news) (hroom : A.depth < recursionLimit)
    (hiter : ∀ Q' : Value → Shared → Prop, (∀ tk, Q' (.ref tm) { s with toks := tk }) → wpAny (model prog w) A (eval iter (envX cn cs L a ccd cl)) Q' E s)
    (h : ∀ I C x H4 h5 ps' code t1 t2 tk, Fr h₀ L H4 m → News h₀ L H4 ((I, itO tm 0) :: (P, tabObj ps') :: news) → TriplesOk ps'.toList → H4.objs.size = C → (∀ b o, H4.get? b = some o → h5.get? b = some o) →
      h5.Ns C (fun y => if y = ".0" then some (.ref I) else none) → h5.get? x = some (genO s.gens.size t1 t2 (cn ++ ".<locals>." ++ "<genexpr>")) → x = C + 1 → h5.objs.size = C + 2 → (∀ q ∈ (P, tabObj ps) :: news, q.1 < I) → I < C →
      Fr h₀ L h5 m → News h₀ L h5 ((x, genO s.gens.size t1 t2 (cn ++ ".<locals>." ++ "<genexpr>")) :: (I, itO tm 0) :: (P, tabObj ps') :: news) →
      Q (.ref x) ⟨h5, s.gens.push (.fresh (.compStart (.GeneratorExp elt [⟨target, iter, [], 0⟩] scope pos) 0 (.ref I) .none (genEnv scope cl' C code builtinsNs (envX cn cs L a ccd cl)))), s.drawn, tk, s.os⟩)
    (hco : scope.isCoroutine = false) (hclos : closureFor scope (envX cn cs L a ccd cl) = pure cl') (hcell : ∀ y ∈ scope.names, y.2 ≠ .cell) (h0 : scope.names.lookup (".0" : Str) = some NameKind.local) (hkind : scope.kind = .function)
    (hs : ∀ x, genFold iter (envX cn cs L a ccd cl) x = pure x) :
    wpAny (model prog w) A (eval (.GeneratorExp elt [⟨target, iter, [], 0⟩] scope pos) (envX cn cs L a ccd cl)) Q E s := by
  refine wpAny_GeneratorExp_make hco hclos hcell h0 hkind hroom (hiter _ fun tk => ?_) hs
  have hT : s.heap.IsTuple tm items := ⟨_, (N _ (.tail _ htm)).1, rfl, _, rfl⟩
  refine wpAny_pyIter_tuple hT ?_
  have F1 : Fr h₀ L (s.heap.push (itO tm 0)) m := F.push _
  have N1 := N.push F (itO tm 0)
  have lI : ∀ q ∈ (P, tabObj ps) :: news, q.1 < s.heap.objs.size := fun q hq => Heap.lt_size (N q hq).1
  have lL : L < s.heap.objs.size := F.ns.lt
  refine ⟨T.nolimit.keeps F1.keep, ?_⟩
  have fin : ∀ (code : Value) (h3 : Heap) (tk3 : Tok) (ps' : Array Value), Fr h₀ L h3 m → News h₀ L h3 ((s.heap.objs.size, itO tm 0) :: (P, tabObj ps') :: news) → TriplesOk ps'.toList → s.heap.objs.size < h3.objs.size →
      wpAny (model prog w) A (builtinsFor mainGlobals builtinsNs) (fun bi s₄ => ∀ h', h'.Ns s₄.heap.objs.size (fun y => if y = ".0" then some (.ref s.heap.objs.size) else none) → Heap.SameBut s₄.heap.objs.size (s₄.heap.push { cls := .type "frame", data := .dict #[] }) h' →
          Q (.ref h'.objs.size) { s₄ with
            gens := s₄.gens.push (.fresh (.compStart (.GeneratorExp elt [⟨target, iter, [], 0⟩] scope pos) 0 (.ref s.heap.objs.size) .none (genEnv scope cl' s₄.heap.objs.size code bi (envX cn cs L a ccd cl)))),
            toks := s₄.toks + 1 + 1 + 1,
            heap := h'.push { cls := .type "generator", data := .fields #[.int s₄.gens.size 0, .str "<genexpr>" (s₄.toks + 1), .str ((envX cn cs L a ccd cl).qual ++ "<genexpr>") (s₄.toks + 1 + 1)] } }) E ⟨h3, s.gens, s.drawn, tk3, s.os⟩ := by
    intro code h3 tk3 ps' F3 N3 ht3 hlt3
    obtain ⟨bm, ob, b1, b2, b3, b4, b5, b6⟩ := T.bmain
    refine wpAny_builtinsFor (T.g.keeps F3.keep) b1 b2 (F3.keep _ _ b3) b4 b5 b6 ?_
    intro h' hns hsb
    have hsz : h'.objs.size = h3.objs.size + 1 := by rw [hsb.1, Heap.size_push]
    have keep' : ∀ b o, h3.get? b = some o → h'.get? b = some o := fun b o e => hsb.extBut b o (Nat.ne_of_lt (Heap.lt_size e)) (Heap.get?_push_of_some _ e)
    have keep5 : ∀ b o, h3.get? b = some o → (h'.push (genO s.gens.size (tk3 + 1) (tk3 + 1 + 1) (cn ++ ".<locals>." ++ "<genexpr>"))).get? b = some o := fun b o e => Heap.get?_push_of_some _ (keep' b o e)
    have lx : L < h'.objs.size := Nat.lt_of_lt_of_le F3.ns.lt (by rw [hsz]; exact Nat.le_succ _)
    refine h s.heap.objs.size h3.objs.size h'.objs.size h3 _ ps' code _ _ _ F3 N3 ht3 rfl keep5 (hns.push _) (Heap.get?_push_size _ rfl) hsz (by rw [Heap.size_push, hsz]) lI hlt3 (F3.keeps keep5) ?_
    intro q hq
    rcases List.mem_cons.mp hq with rfl | hq
    · exact ⟨Heap.get?_push_size _ rfl, Nat.ne_of_gt lx, Heap.get?_none_of_le (Nat.le_trans F.above (Nat.le_of_lt lx))⟩
    · exact ⟨keep5 _ _ (N3 q hq).1, (N3 q hq).2⟩
  have hmP := N1 (P, tabObj ps) (.tail _ (.head _))
  cases hc : codeAmong pos ps.toList with
  | some cv =>
    refine wpAny_genexprCode_hit hcd ((C₀.keeps F1.keep).code hmP.1 ht) hc ?_
    exact fin cv _ _ ps F1 N1 ht (by rw [Heap.size_push]; exact Nat.lt_succ_self _)
  | none =>
    refine wpAny_genexprCodeX hcd ((C₀.keeps F1.keep).code hmP.1 ht) ((C₀.keeps F1.keep).tab hmP.1) hc fun c' h3 tk3 hx hge hlt hcode hrec htab _ => ?_
    have old : ∀ b o, h₀.get? b = some o → h3.get? b = some o := fun b o e => hx b o (fun q => by rw [q, hmP.2.2] at e; cases e) (F1.keep b o e)
    refine fin _ _ _ (ps ++ #[rawInt pos.line, rawInt pos.col, .ref c']) ⟨F1.ns.extBut hx hmP.2.1.symm, old, F1.above⟩ ?_ ?_ (Nat.lt_of_lt_of_le (by rw [Heap.size_push]; exact Nat.lt_succ_self _) (Nat.le_trans hge (Nat.le_of_lt hlt)))
    · intro q hq
      rcases List.mem_cons.mp hq with rfl | hq
      · have n := N1 (s.heap.objs.size, itO tm 0) (.head _)
        exact ⟨hx _ _ (Nat.ne_of_gt (lI (P, tabObj ps) (.head _))) n.1, n.2⟩
      · rcases List.mem_cons.mp hq with rfl | hq
        · exact ⟨htab.2, hmP.2⟩
        · have n := N1 q (.tail _ (.tail _ hq))
          exact ⟨hx _ _ (hne q hq) n.1, n.2⟩
    · have : (ps ++ #[rawInt pos.line, rawInt pos.col, Value.ref c']).toList = ps.toList ++ [rawInt pos.line, rawInt pos.col, .ref c'] := by simp
      rw [this]; exact TriplesOk_snoc _ _ _ _ ht
end
end Mine
end
section
open PySem PySem.W PyProof.Rows PySem.Calls PySem.Spec
set_option Elab.async false
set_option maxRecDepth 100000
set_option maxHeartbeats 1000000
namespace Mine
section
variable (prog : Program) (w : World) (K : Frag) (P : Addr) (nm : Str)
/-- a call by contract, over a ledger in which a part changes -/
def CallE (f : Addr) (v r : Value) (rm : Addr) (need : Nat) (St St' : List (Addr × Obj) → Prop) (Fx : List (Addr × Obj)) : Prop :=
  ∀ {A A₀ : Around} {env : Env} {outer : List Env} {base h₀ : Heap} {L : Addr} {m mg mb : Str → Option Value} {s : Shared} {p : Program} {loose : List Str} {mean : ExcName → Option Value} {ps : Array Value} {X M : List (Addr × Obj)} {Q E : Value → Shared → Prop},
    A.handled = none → A.frames = some (env :: outer) → env.frame = some L → env.scope.kind = .function → A.depth + need < recursionLimit → A.units + 20 * need < cLine →
    Below A₀ base outer h₀ → Fr h₀ L s.heap m → K.In h₀ → Top p loose mean mg mb h₀ → TriplesOk ps.toList → AllBare s.gens →
    News h₀ L s.heap ((P, tabObj ps) :: (X ++ M)) → (∀ q ∈ X ++ M, q.1 ≠ P) → (∀ q ∈ X, ∀ z ∈ M, q.1 ≠ z.1) → St M → (∀ q ∈ Fx, q ∈ X) →
    (∀ h' gs tk ps' M', s.gens.size ≤ gs.size → AllBare gs → TriplesOk ps'.toList → Fr h₀ L h' m → News h₀ L h' ((P, tabObj ps') :: (X ++ M')) → St' M' → (∀ q ∈ M', (∃ z ∈ M, z.1 = q.1) ∨ ∀ z ∈ (P, tabObj ps) :: (X ++ M), z.1 < q.1) → Q r ⟨h', gs, s.drawn, tk, s.os⟩) →
    wpAny (model prog w) A (call (.ref f) [v, .ref rm]) Q E s
def GetE (v : Value) (f : Addr) (St : List (Addr × Obj) → Prop) : Prop :=
  ∀ {A : Around} {h₀ : Heap} {L : Addr} {m : Str → Option Value} {s : Shared} {M : List (Addr × Obj)} {pl : Sem Bool} {Q : Value × List Value → Shared → Prop} {E : Value → Shared → Prop},
    Fr h₀ L s.heap m → K.In h₀ → News h₀ L s.heap M → St M → Q (.ref f, [v]) s → wpAny (model prog w) A (getMethod v nm pl) Q E s
def Elem (v r : Value) (rm : Addr) (need : Nat) (St St' : List (Addr × Obj) → Prop) (Fx : List (Addr × Obj)) : Prop :=
  ∃ f, keepIn K (.ref f) = true ∧ GetE prog w K nm v f St ∧ CallE prog w K P f v r rm need St St' Fx
end
section
variable {prog : Program} {w : World} {K : Frag} {P : Addr} {nm : Str} {A A₀ : Around} {outer : List Env} {base g₁ : Heap} {C cc rm : Addr} {mC mg mb : Str → Option Value} {s : Shared} {p : Program} {loose : List Str} {mean : ExcName → Option Value} {ps : Array Value} {X M : List (Addr × Obj)} {E : Value → Shared → Prop}
  {scope : Scope} {cl : List (Str × Addr)} {code : Value} {bi : Addr} {env1 : Env} {x y : Str} {p1 p2 p3 p4 : Pos} {v r : Value} {need : Nat} {St St' : List (Addr × Obj) → Prop} {Fx : List (Addr × Obj)} {oc : Obj}
abbrev eltOf (x nm y : Str) (p1 p2 p3 p4 : Pos) : Expr := .Call (.Attribute (.Name x p1) nm p2) [.Name y p3] [] p4
theorem turn_el {Q : Value → Shared → Prop} (El : Elem prog w K P nm v r rm need St St' Fx) (hFx : ∀ q ∈ Fx, q ∈ X) (hk : scope.kind = .function) (hx : scope.names.lookup x = some .local) (hy : scope.names.lookup y = some .free) (hcl : cl.lookup y = some cc)
    (hh : A.handled = none) (hA : A.frames = some (genEnv scope cl C code bi env1 :: outer)) (hd : A.depth + need < recursionLimit) (hu : A.units + 20 * need < cLine)
    (B : Below A₀ base outer g₁) (F : Fr g₁ C s.heap mC) (hm : mC x = some v) (X₀ : K.In g₁) (T : Top p loose mean mg mb g₁) (ht : TriplesOk ps.toList) (hba : AllBare s.gens)
    (N : News g₁ C s.heap ((P, tabObj ps) :: (X ++ M))) (hP : ∀ q ∈ X ++ M, q.1 ≠ P) (dj : ∀ q ∈ X, ∀ z ∈ M, q.1 ≠ z.1) (hS : St M) (hc : (cc, oc) ∈ X) (hcd : oc.data = .cell (some (.ref rm)))
    (h : ∀ h' gs tk ps' M', s.gens.size ≤ gs.size → AllBare gs → TriplesOk ps'.toList → Fr g₁ C h' mC → News g₁ C h' ((P, tabObj ps') :: (X ++ M')) → St' M' → (∀ q ∈ M', (∃ z ∈ M, z.1 = q.1) ∨ ∀ z ∈ (P, tabObj ps) :: (X ++ M), z.1 < q.1) → Q r ⟨h', gs, s.drawn, tk, s.os⟩)
    (hne : ∃ pl : Sem Bool, (eval (.Call (.Attribute (.Name x p1) nm p2) [.Name y p3] [] p4) (genEnv scope cl C code bi env1)) = (do
      let ov ← eval (.Name x p1) (genEnv scope cl C code bi env1)
      standAt p2.atName
      let (f, first) ← holding [ov] (getMethod ov nm pl)
      callWith p4 f first (backTo p4 (starEach [.Name y p3] (genEnv scope cl C code bi env1))) []))
    (hdx : (x == ("__debug__" : Str)) = false) (hdy : (y == ("__debug__" : Str)) = false) (hdc : (y == ("__classdict__" : Str)) = false) :
    wpAny (model prog w) A (eval (eltOf x nm y p1 p2 p3 p4) (genEnv scope cl C code bi env1)) Q E s := by
  obtain ⟨f, hkf, hget, hcall⟩ := El
  obtain ⟨pl, hne⟩ := hne
  refine MethodCall_ ?_ hne
  refine wpAny_Name (wpAny_loadName_local hk hx F.ns hm ?_) hdx
  refine hget F X₀ (News.sub N fun q hq => .tail _ (List.mem_append_right _ hq)) hS ?_
  refine callWith_K X₀ hkf ?_
  refine args_cons ?_
  refine wpAny_Name (wpAny_loadName_free hk hy hcl ⟨oc, (N _ (.tail _ (List.mem_append_left _ hc))).1, hcd⟩ ?_ hdc) hdy
  refine args_nil ?_
  refine ⟨X₀.keeps F.keep, ?_⟩
  exact hcall hh hA rfl hk hd hu B F X₀ T ht hba N hP dj hS hFx h
end
section
variable (g₁ : Heap) (C P D I tm : Addr) (X M0 : List (Addr × Obj)) (St : Nat → List (Addr × Obj) → Prop) (gi n : Nat) (d : Drawn) (os : OsState)
def InvT (i : Nat) (s : Shared) : Prop :=
  ∃ mC ps oD oI M, Fr g₁ C s.heap mC ∧ TriplesOk (Array.toList ps) ∧ ItT oI tm i ∧ News g₁ C s.heap ((P, tabObj ps) :: (((D, oD) :: (I, oI) :: X) ++ M)) ∧ St i M ∧
    (∀ q ∈ M, q.1 ≠ P ∧ q.1 ≠ D ∧ q.1 ≠ I ∧ ∀ z ∈ X, z.1 ≠ q.1) ∧ gi < s.gens.size ∧ AllBare s.gens ∧ s.drawn = d ∧ s.os = os ∧ (∀ q ∈ M, (∃ z ∈ M0, z.1 = q.1) ∨ C ≤ q.1)
def EndT (s : Shared) : Prop :=
  ∃ mC ps M, Fr g₁ C s.heap mC ∧ TriplesOk (Array.toList ps) ∧ News g₁ C s.heap ((P, tabObj ps) :: (X ++ M)) ∧ St n M ∧
    (∀ q ∈ M, q.1 ≠ P ∧ ∀ z ∈ X, z.1 ≠ q.1) ∧ gi < s.gens.size ∧ AllBare s.gens ∧ s.drawn = d ∧ s.os = os ∧ (∀ q ∈ M, (∃ z ∈ M0, z.1 = q.1) ∨ C ≤ q.1)
end
theorem bare_set {gens : Array GenState} {g : Nat} {y : GenState} (h : AllBare gens) (hy : y.bare = true) : AllBare (gens.setIfInBounds g y) := fun z hz => by
  rcases Array.mem_or_eq_of_mem_setIfInBounds hz with h1 | h1
  · exact h z h1
  · exact h1 ▸ hy
theorem over_gen (A : Around) (cenv : Env) (elt iter : Expr) (x : Str) (px : Pos) (scope : Scope) (pos : Pos) (it : Value) :
    (A.over (.compLoop (gexp elt iter x px scope pos) 0 it .none cenv) []).handled = A.handled ∧ (A.over (.compLoop (gexp elt iter x px scope pos) 0 it .none cenv) []).frames = A.frames.map (cenv :: ·) ∧
    (A.over (.compLoop (gexp elt iter x px scope pos) 0 it .none cenv) []).depth ≤ A.depth + 5 ∧ (A.over (.compLoop (gexp elt iter x px scope pos) 0 it .none cenv) []).units ≤ A.units + 20 := by
  refine ⟨rfl, ?_, ?_, ?_⟩
  · cases h : A.frames with
    | none => simp only [Around.over, h]; rfl
    | some l => simp only [Around.over, h]; rfl
  · show A.depth + 0 + 1 ≤ _
    omega
  · show A.units + 0 + 3 ≤ _
    omega
theorem Fr.butNew {g h h' : Heap} {C I : Addr} {m : Str → Option Value} (F : Fr g C h m) (hs : Heap.SameBut I h h') (hI : I ≠ C) (hg : g.get? I = none) : Fr g C h' m :=
  ⟨F.ns.sameBut hs hI.symm, fun b o e => (hs.2 b (fun q => by rw [q, hg] at e; cases e)).trans (F.keep b o e), F.above⟩
section
variable {prog : Program} {w : World} {K : Frag} {P : Addr} {nm : Str} {A A₀ : Around} {outer : List Env} {base g₁ : Heap} {C cc rm D I tm a : Addr} {mg mb : Str → Option Value} {p : Program} {loose : List Str} {mean : ExcName → Option Value} {X M0 : List (Addr × Obj)}
  {scope : Scope} {cl : List (Str × Addr)} {code : Value} {bi : Addr} {env1 : Env} {x y : Str} {px p1 p2 p3 p4 pos : Pos} {need gi : Nat} {St : Nat → List (Addr × Obj) → Prop} {Fx : List (Addr × Obj)} {oc : Obj} {items : Array Value} {res : Nat → Value} {d : Drawn} {os : OsState} {iter : Expr} {t1 t2 : Tok} {qn : Str}
theorem gturns (hFx : ∀ q ∈ Fx, q ∈ X) (El : ∀ i v, items[i]? = some v → Elem prog w K P nm v (res i) rm need (St i) (St (i + 1)) Fx) (hk : scope.kind = .function) (hx : scope.names.lookup x = some .local) (hy : scope.names.lookup y = some .free) (hcl : cl.lookup y = some cc)
    (hh : A.handled = none) (hA : A.frames = some (env1 :: outer)) (hd : A.depth + 5 + need < recursionLimit) (hu : A.units + 20 + 20 * need < cLine)
    (B : Below A₀ base (env1 :: outer) g₁) (X₀ : K.In g₁) (T : Top p loose mean mg mb g₁)
    (hX : ∀ z ∈ X, z.1 ≠ P ∧ z.1 ≠ D ∧ z.1 ≠ I) (hDP : D ≠ P) (hIP : I ≠ P) (hID : I ≠ D) (hCD : C ≤ D) (hc : (cc, oc) ∈ X) (hcd : oc.data = .cell (some (.ref rm))) (htm : (tm, tupObj items) ∈ X) (hg : (a, genO gi t1 t2 qn) ∈ X)
    (hne : ∃ pl : Sem Bool, (eval (.Call (.Attribute (.Name x p1) nm p2) [.Name y p3] [] p4) (genEnv scope cl C code bi env1)) = (do
      let ov ← eval (.Name x p1) (genEnv scope cl C code bi env1)
      standAt p2.atName
      let (f, first) ← holding [ov] (getMethod ov nm pl)
      callWith p4 f first (backTo p4 (starEach [.Name y p3] (genEnv scope cl C code bi env1))) []))
    (hdx : (x == ("__debug__" : Str)) = false) (hdy : (y == ("__debug__" : Str)) = false) (hdc : (y == ("__classdict__" : Str)) = false) :
    GTurns prog w A (eltOf x nm y p1 p2 p3 p4) iter x px scope pos (genEnv scope cl C code bi env1) I tm a D gi items res (InvT g₁ C P D I tm X M0 St gi d os) (EndT g₁ C P X M0 St gi items.size d os) where
  itr := by
    rintro i s ⟨mC, ps, oD, oI, M, F, ht, hI, N, _⟩
    refine ⟨⟨oI, (N (I, oI) (.tail _ (.tail _ (.head _)))).1, hI.1, hI.2⟩, ⟨_, (N (tm, tupObj items) (.tail _ (List.mem_append_left _ (.tail _ (.tail _ htm))))).1, rfl, _, rfl⟩⟩
  gens := by
    rintro i s ⟨mC, ps, oD, oI, M, F, ht, hI, N, hS, hM, hgi, _⟩
    exact ⟨hgi, ⟨_, _, _, (N (a, genO gi t1 t2 qn) (.tail _ (List.mem_append_left _ (.tail _ (.tail _ hg))))).1, rfl, rfl, rfl⟩, T.nolimit.keeps F.keep⟩
  set := by
    rintro i s z ⟨mC, ps, oD, oI, M, F, ht, hI, N, hS, hM, hgi, hba, r⟩ hz
    exact ⟨mC, ps, oD, oI, M, F, ht, hI, N, hS, hM, by show gi < (s.gens.setIfInBounds gi z).size; rw [Array.size_setIfInBounds]; exact hgi, bare_set hba hz, r⟩
  self := by
    rintro i s ⟨mC, ps, oD, oI, M, F, ht, hI, N, _⟩
    exact ⟨oD, (N (D, oD) (.tail _ (.head _))).1⟩
  upd := by
    rintro i s h' tk o ⟨mC, ps, oD, oI, M, F, ht, hI, N, hS, hM, r⟩ hs ho
    have nD := N (D, oD) (.tail _ (.head _))
    refine ⟨mC, ps, o, oI, M, Fr.butNew F hs nD.2.1 nD.2.2, ht, hI, ?_, hS, hM, r⟩
    have key : ∀ q, q.1 ≠ D → q ∈ ((P, tabObj ps) :: (((D, oD) :: (I, oI) :: X) ++ M)) → h'.get? q.1 = some q.2 ∧ q.1 ≠ C ∧ g₁.get? q.1 = none := fun q hq hm => ⟨(hs.2 q.1 hq).trans (N q hm).1, (N q hm).2⟩
    intro q hq
    rcases List.mem_cons.mp hq with rfl | hq
    · exact key _ (Ne.symm hDP) (.head _)
    · rcases List.mem_append.mp hq with hq | hq
      · rcases List.mem_cons.mp hq with rfl | hq
        · exact ⟨ho, nD.2⟩
        · rcases List.mem_cons.mp hq with rfl | hq
          · exact key _ hID (.tail _ (.tail _ (.head _)))
          · exact key _ (hX _ hq).2.1 (.tail _ (List.mem_append_left _ (.tail _ (.tail _ hq))))
      · exact key _ (hM q hq).2.1 (.tail _ (List.mem_append_right _ hq))
  turn := by
    rintro i v s hv ⟨mC, ps, oD, oI, M, F, ht, hI, N, hS, hM, hgi, hba, hdr, hos, hfr⟩ h₁ hit hs
    obtain ⟨o1, ho1, hc1, hd1⟩ := hit
    have nI := N (I, oI) (.tail _ (.tail _ (.head _)))
    have F1 : Fr g₁ C h₁ mC := Fr.butNew F hs nI.2.1 nI.2.2
    have key : ∀ q, q.1 ≠ I → q ∈ ((P, tabObj ps) :: (((D, oD) :: (I, oI) :: X) ++ M)) → h₁.get? q.1 = some q.2 ∧ q.1 ≠ C ∧ g₁.get? q.1 = none := fun q hq hm => ⟨(hs.2 q.1 hq).trans (N q hm).1, (N q hm).2⟩
    have N1 : News g₁ C h₁ ((P, tabObj ps) :: (((D, oD) :: (I, o1) :: X) ++ M)) := by
      intro q hq
      rcases List.mem_cons.mp hq with rfl | hq
      · exact key _ (Ne.symm hIP) (.head _)
      · rcases List.mem_append.mp hq with hq | hq
        · rcases List.mem_cons.mp hq with rfl | hq
          · exact key _ (Ne.symm hID) (.tail _ (.head _))
          · rcases List.mem_cons.mp hq with rfl | hq
            · exact ⟨ho1, nI.2⟩
            · exact key _ (hX _ hq).2.2 (.tail _ (List.mem_append_left _ (.tail _ (.tail _ hq))))
        · exact key _ (hM q hq).2.2.1 (.tail _ (List.mem_append_right _ hq))
    obtain ⟨v1, v2, v3, v4⟩ := over_gen A (genEnv scope cl C code bi env1) (eltOf x nm y p1 p2 p3 p4) iter x px scope pos (.ref I)
    refine wpAny_assign_Name (wpAny_storeName_local hx F1.ns (fun h' hn hs' => ?_) (by show ((genEnv scope cl C code bi env1).scope.kind == _ || _) = false; simp [genEnv, hk]))
    have F2 := F1.set hn hs'
    have N2 := N1.set hs'
    refine turn_el (outer := env1 :: outer) (El i v hv) (fun q hq => .tail _ (.tail _ (hFx q hq))) hk hx hy hcl (v1.trans hh) (by rw [v2, hA]; rfl) (by omega) (by omega) B F2 (by simp) X₀ T ht hba N2 ?_ ?_ hS (.tail _ (.tail _ hc)) hcd ?_ hne hdx hdy hdc
    · intro q hq
      rcases List.mem_append.mp hq with hq | hq
      · rcases List.mem_cons.mp hq with rfl | hq
        · exact hDP
        · rcases List.mem_cons.mp hq with rfl | hq
          · exact hIP
          · exact (hX _ hq).1
      · exact (hM q hq).1
    · intro q hq z hz
      rcases List.mem_cons.mp hq with rfl | hq
      · exact Ne.symm (hM z hz).2.1
      · rcases List.mem_cons.mp hq with rfl | hq
        · exact Ne.symm (hM z hz).2.2.1
        · exact (hM z hz).2.2.2 _ hq
    · intro h3 gs tk3 ps3 M3 hgs hbs ht3 F3 N3 hS3 hfr3
      have big : ∀ q ∈ M3, ∀ b, (∃ z ∈ (P, tabObj ps) :: (((D, oD) :: (I, o1) :: X) ++ M), z.1 = b) → (∀ z ∈ M, z.1 ≠ b) → q.1 ≠ b := fun q hq b hb hz e => by
        rcases hfr3 q hq with ⟨z, hz', e'⟩ | hge
        · exact hz z hz' (e'.trans e)
        · obtain ⟨z, hz1, hz2⟩ := hb
          have := hge z hz1
          rw [hz2, e] at this
          exact absurd this (Nat.lt_irrefl _)
      refine ⟨rfl, ⟨_, ps3, oD, o1, M3, F3, ht3, ⟨hc1, hd1⟩, N3, hS3, fun q hq => ⟨?_, ?_, ?_, fun z hz => ?_⟩, Nat.lt_of_lt_of_le hgi hgs, hbs, hdr, hos, fun q hq => ?_⟩, fun o e => ?_⟩
      · exact big q hq _ ⟨_, .head _, rfl⟩ fun z hz => (hM z hz).1
      · exact big q hq _ ⟨(D, oD), .tail _ (.head _), rfl⟩ fun z hz => (hM z hz).2.1
      · exact big q hq _ ⟨(I, o1), .tail _ (.tail _ (.head _)), rfl⟩ fun z hz => (hM z hz).2.2.1
      · exact (big q hq z.1 ⟨z, .tail _ (List.mem_append_left _ (.tail _ (.tail _ hz))), rfl⟩ fun z' hz' => ((hM z' hz').2.2.2 z hz).symm).symm
      · rcases hfr3 q hq with ⟨z, hz', e'⟩ | hge
        · rcases hfr z hz' with ⟨z0, h0, e0⟩ | hz0
          · exact .inl ⟨z0, h0, e0.trans e'⟩
          · exact .inr (e' ▸ hz0)
        · exact .inr (Nat.le_trans hCD (Nat.le_of_lt (hge (D, oD) (.tail _ (.head _)))))
      · have e1 := (N (D, oD) (.tail _ (.head _))).1
        dsimp only at e1
        rw [e] at e1; cases e1
        exact (N3 (D, _) (.tail _ (.head _))).1
  last := by
    rintro s h₁ ⟨mC, ps, oD, oI, M, F, ht, hI, N, hS, hM, hgi, hba, hdr, hos, hfr⟩ he
    have nI := N (I, oI) (.tail _ (.tail _ (.head _)))
    refine ⟨⟨mC, ps, M, ⟨F.ns.extBut he (Ne.symm nI.2.1), fun b o e => he b o (fun q => by rw [q, nI.2.2] at e; cases e) (F.keep b o e), F.above⟩, ht, ?_, hS, fun q hq => ⟨(hM q hq).1, (hM q hq).2.2.2⟩, hgi, hba, hdr, hos, hfr⟩, fun o e => he D o (Ne.symm hID) e⟩
    have key : ∀ q, q.1 ≠ I → q ∈ ((P, tabObj ps) :: (((D, oD) :: (I, oI) :: X) ++ M)) → h₁.get? q.1 = some q.2 ∧ q.1 ≠ C ∧ g₁.get? q.1 = none := fun q hq hm => ⟨he _ _ hq (N q hm).1, (N q hm).2⟩
    intro q hq
    rcases List.mem_cons.mp hq with rfl | hq
    · exact key _ (Ne.symm hIP) (.head _)
    · rcases List.mem_append.mp hq with hq | hq
      · exact key _ (hX _ hq).2.2 (.tail _ (List.mem_append_left _ (.tail _ (.tail _ hq))))
      · exact key _ (hM q hq).2.2.1 (.tail _ (List.mem_append_right _ hq))
  fin := by
    rintro s h' ⟨mC, ps, M, F, ht, N, hS, hM, hgi, hba, r⟩ hk'
    exact ⟨mC, ps, M, F.keeps hk', ht, News.keepsAll N hk', hS, hM, by show gi < (s.gens.setIfInBounds gi _).size; rw [Array.size_setIfInBounds]; exact hgi, bare_set hba rfl, r⟩
theorem tuple_genK {s : Shared} {h₀ H4 : Heap} {L : Addr} {m : Str → Option Value} {Q E : Value → Shared → Prop} {ps : Array Value} {X1 : List (Addr × Obj)}
    (hFx : ∀ q ∈ Fx, q ∈ X1) (El : ∀ i v, items[i]? = some v → Elem prog w K P nm v (res i) rm need (St i) (St (i + 1)) Fx) (hk : scope.kind = .function) (hco : scope.isCoroutine = false) (hx : scope.names.lookup x = some .local) (hy : scope.names.lookup y = some .free) (hcl : cl.lookup y = some cc)
    (hh : A.handled = none) (hA : A.frames = some (env1 :: outer)) (hf : env1.frame = some L) (hke : env1.scope.kind = .function) (hd : A.depth + 5 + need < recursionLimit) (hu : A.units + 40 + 20 * need < cLine)
    (B : Below A₀ base outer h₀) (F : Fr h₀ L H4 m) (N : News h₀ L H4 ((I, itO tm 0) :: (P, tabObj ps) :: (X1 ++ M0))) (X₀ : K.In h₀) (T : Top p loose mean mg mb h₀) (ht : TriplesOk ps.toList)
    (h5 : ∀ b o, H4.get? b = some o → s.heap.get? b = some o) (hba : AllBare s.gens) (hns : s.heap.Ns H4.objs.size (fun z => if z = ".0" then some (.ref I) else none)) (hg : s.heap.get? a = some (genO gi t1 t2 qn)) (ha : a = H4.objs.size + 1) (hsz : s.heap.objs.size = H4.objs.size + 2)
    (hgs : s.gens[gi]? = some (.fresh (.compStart (gexp (eltOf x nm y p1 p2 p3 p4) iter x px scope pos) 0 (.ref I) .none (genEnv scope cl H4.objs.size code bi env1))))
    (hIM : ∀ q ∈ (P, tabObj ps) :: (X1 ++ M0), q.1 < I) (hPM : ∀ q ∈ X1 ++ M0, q.1 ≠ P) (dj : ∀ z ∈ X1, ∀ q ∈ M0, z.1 ≠ q.1) (hS : St 0 M0) (hc : (cc, oc) ∈ X1) (hcd : oc.data = .cell (some (.ref rm))) (htm : (tm, tupObj items) ∈ X1) (hn : items.size ≤ sizeLine)
    (hne : ∃ pl : Sem Bool, (eval (.Call (.Attribute (.Name x p1) nm p2) [.Name y p3] [] p4) (genEnv scope cl H4.objs.size code bi env1)) = (do
      let ov ← eval (.Name x p1) (genEnv scope cl H4.objs.size code bi env1)
      standAt p2.atName
      let (f, first) ← holding [ov] (getMethod ov nm pl)
      callWith p4 f first (backTo p4 (starEach [.Name y p3] (genEnv scope cl H4.objs.size code bi env1))) []))
    (hdx : (x == ("__debug__" : Str)) = false) (hdy : (y == ("__debug__" : Str)) = false) (hdc : (y == ("__classdict__" : Str)) = false)
    (ret : ∀ h' gs tk' ps' M' tn, gi < gs.size → AllBare gs → TriplesOk (Array.toList ps') → Fr h₀ L h' m → News h₀ L h' ((tn, tupObj ((List.range items.size).map res).toArray) :: (P, tabObj ps') :: (X1 ++ M')) → St items.size M' → (∀ q ∈ M', (∃ z ∈ M0, z.1 = q.1) ∨ H4.objs.size ≤ q.1) →
      (∀ q ∈ (P, tabObj ps') :: (X1 ++ M'), q.1 < tn) → (∀ q ∈ M', q.1 ≠ P ∧ ∀ z ∈ X1, z.1 ≠ q.1) → H4.objs.size ≤ tn → Q (.ref tn) ⟨h', gs, s.drawn, tk', s.os⟩) :
    wpAny (model prog w) A (call (.type "tuple") [.ref a]) Q E s := by
  obtain ⟨FG, BG, st, lv⟩ := groundX (A := A) (s := { s with heap := H4 }) (R := fun r s' => match r with | .ok (.ret v) => Q v s' | _ => True) B F N hA hf hke
  generalize hg1 : hideAll ({ s with heap := H4 } : Shared).heap (((I, itO tm 0) :: (P, tabObj ps) :: (X1 ++ M0)).map (·.1)) = g₁ at FG BG st lv
  have hg1s : g₁.objs.size = H4.objs.size := by rw [← hg1]; exact hideAll_size _ _
  have hof : ∀ b o, g₁.get? b = some o → H4.get? b = some o := fun b o e => of_hideAll _ (hg1 ▸ e)
  have hnone : ∀ b, H4.objs.size ≤ b → g₁.get? b = none := fun b hb => Heap.get?_none_of_le (by rw [hg1s]; exact hb)
  have hhid : ∀ q ∈ (I, itO tm 0) :: (P, tabObj ps) :: (X1 ++ M0), g₁.get? q.1 = none := fun q hq => by rw [← hg1]; exact hideAll_none _ (List.mem_map_of_mem hq)
  have lt4 : ∀ q ∈ (I, itO tm 0) :: (P, tabObj ps) :: (X1 ++ M0), q.1 < H4.objs.size := fun q hq => Heap.lt_size (N q hq).1
  have hD : @Eq Nat s.heap.objs.size (H4.objs.size + 2) := hsz
  have ha' : @Eq Nat a (H4.objs.size + 1) := ha
  have eP : @LT.lt Nat _ P I := hIM (P, tabObj ps) (.head _)
  have eI : @LT.lt Nat _ I H4.objs.size := lt4 (I, itO tm 0) (.head _)
  have G := gturns (D := s.heap.objs.size) (C := H4.objs.size) (X := (a, genO gi t1 t2 qn) :: X1) (M0 := M0) (d := s.drawn) (os := s.os) (iter := iter) (px := px) (pos := pos) (a := a) (A := A.in1.in1.in1.in1) (t1 := t1) (t2 := t2) (qn := qn) (tm := tm) (items := items) (gi := gi) (I := I) (fun q hq => .tail _ (hFx q hq)) El hk hx hy hcl hh hA (by exact hd) (by show A.units + 1 + 1 + 1 + 1 + 20 + 20 * need < cLine; omega) BG (X₀.keeps st) (T.keeps st)
    (fun z hz => by
      rcases List.mem_cons.mp hz with rfl | hz
      · exact ⟨Nat.ne_of_gt (show @LT.lt Nat _ P a by omega), Nat.ne_of_lt (show @LT.lt Nat _ a s.heap.objs.size by omega), Nat.ne_of_gt (show @LT.lt Nat _ I a by omega)⟩
      · have h1 : @LT.lt Nat _ z.1 I := hIM z (.tail _ (List.mem_append_left _ hz))
        exact ⟨hPM z (List.mem_append_left _ hz), Nat.ne_of_lt (show @LT.lt Nat _ z.1 s.heap.objs.size by omega), Nat.ne_of_lt h1⟩)
    (Nat.ne_of_gt (show @LT.lt Nat _ P s.heap.objs.size by omega)) (Nat.ne_of_gt (hIM (P, tabObj ps) (.head _)))
    (Nat.ne_of_lt (show @LT.lt Nat _ I s.heap.objs.size by omega)) (show @LE.le Nat _ H4.objs.size s.heap.objs.size by omega) (.tail _ hc) hcd (.tail _ htm) (.head _) hne hdx hdy hdc
  have W := GNext.of (A := A.in1.in1.in1) hh (by show A.depth < recursionLimit; omega) G
  have gen0 : s.heap.IsGen a gi := ⟨_, _, _, hg, rfl, rfl, rfl⟩
  refine call_tuple_T gen0 W (fun h' tk c hk' hD' hz' => ?_) (fun s' hE => ?_) hn
  · have F0 : Fr g₁ H4.objs.size h' (fun z => if z = ".0" then some (.ref I) else none) := ⟨hns.keeps hk', fun b o e => hk' _ _ (h5 b o (hof b o e)), Nat.le_of_eq hg1s⟩
    have key : ∀ q ∈ (I, itO tm 0) :: (P, tabObj ps) :: (X1 ++ M0), h'.get? q.1 = some q.2 ∧ q.1 ≠ H4.objs.size ∧ g₁.get? q.1 = none := fun q hq => ⟨hk' _ _ (h5 _ _ (N q hq).1), Nat.ne_of_lt (lt4 q hq), hhid q hq⟩
    refine GA.fresh (A := A.in1.in1.in1.in1) hh hco G (s := { s with heap := h', toks := tk }) ⟨_, ps, lstD [] c, itO tm 0, M0, F0, ht, ⟨rfl, rfl⟩, ?_, hS, ?_, (by
      rcases Nat.lt_or_ge gi s.gens.size with h | h
      · exact h
      · rw [Array.getElem?_eq_none h] at hgs; cases hgs), hba, rfl, rfl, fun q hq => .inl ⟨q, hq, rfl⟩⟩ hgs
    · intro q hq
      rcases List.mem_cons.mp hq with rfl | hq
      · exact key _ (.tail _ (.head _))
      · rcases List.mem_append.mp hq with hq | hq
        · rcases List.mem_cons.mp hq with rfl | hq
          · exact ⟨hD', Nat.ne_of_gt (show @LT.lt Nat _ H4.objs.size s.heap.objs.size by omega), hnone _ (show @LE.le Nat _ H4.objs.size s.heap.objs.size by omega)⟩
          · rcases List.mem_cons.mp hq with rfl | hq
            · exact key _ (.head _)
            · rcases List.mem_cons.mp hq with rfl | hq
              · exact ⟨hk' _ _ hg, Nat.ne_of_gt (show @LT.lt Nat _ H4.objs.size a by omega), hnone _ (show @LE.le Nat _ H4.objs.size a by omega)⟩
              · exact key _ (.tail _ (.tail _ (List.mem_append_left _ hq)))
        · exact key _ (.tail _ (.tail _ (List.mem_append_right _ hq)))
    · intro q hq
      have h1 : @LT.lt Nat _ q.1 I := hIM q (.tail _ (List.mem_append_right _ hq))
      refine ⟨hPM q (List.mem_append_right _ hq), Nat.ne_of_lt (show @LT.lt Nat _ q.1 s.heap.objs.size by omega), Nat.ne_of_lt h1, fun z hz => ?_⟩
      rcases List.mem_cons.mp hz with rfl | hz
      · exact Nat.ne_of_gt (show @LT.lt Nat _ q.1 a by omega)
      · exact dj z hz q hq
  · obtain ⟨mC, ps', M', F', ht', N', hS', hM', hgi', hba', hdr', hos', hfr'⟩ := hE
    have sub : ∀ q ∈ (P, tabObj ps') :: (X1 ++ M'), q ∈ (P, tabObj ps') :: ((a, genO gi t1 t2 qn) :: X1 ++ M') := fun q hq => by
      rcases List.mem_cons.mp hq with rfl | hq
      · exact .head _
      · exact .tail _ (.tail _ hq)
    have N2 := News.sub N' sub
    have hat : @LE.le Nat _ H4.objs.size s'.heap.objs.size := by
      have z : @LT.lt Nat _ a s'.heap.objs.size := Heap.lt_size (N' (a, genO gi t1 t2 qn) (.tail _ (.head _))).1
      omega
    refine lv (.ref s'.heap.objs.size) { s' with heap := s'.heap.push (tupObj ((List.range items.size).map res).toArray) } ⟨H4.objs.size, mC, _, F'.push _, N2.push F' _, fun F3 N3 => ?_⟩
    obtain ⟨h', gs, dr, tk', oo⟩ := s'
    dsimp only at hdr' hos' hgi' hba' F3 N3 ⊢
    subst hdr' hos'
    exact ret _ gs tk' ps' M' _ hgi' hba' ht' F3 N3 hS' hfr' (fun q hq => Heap.lt_size (N2 q hq).1) (fun q hq => ⟨(hM' q hq).1, fun z hz => (hM' q hq).2 z (.tail _ hz)⟩) hat
end
end Mine
end
section
open PySem PySem.W PyProof.Rows PySem.Calls PySem.Spec Builtin Builtin.ObjectAttr
set_option Elab.async false
set_option maxRecDepth 100000
set_option maxHeartbeats 4000000
namespace Mine
section
variable {prog : Program} {w : World} {A : Around} {R : Result → Shared → Prop} {h : Heap} {g : Array GenState} {d : Drawn} {t : Nat} {os : OsState} {K : Frag}
variable {nm q : Str} {C N : Addr} {bs bm : List Value} {hdct : Bool} {sn : List Str} {sub : List Value} {ab : Bool} {col : Option Bool} {dd : Option Addr} {k0 k1 k2 k3 k5 : Option Value}
abbrev lazyObj (C dx : Addr) (x : Str) (t : Tok) : Obj := { cls := .ref C, dict := some dx, data := .prim (.str x t) }
theorem sn_kind : builtinKind "str.__new__" = some .builtinFn := by decide +kernel
theorem sn_split : splitId "str.__new__" = some ("str", "__new__") := by decide +kernel
theorem sn_args (C : Addr) (x : Str) (tx : Tok) : argsOk "str.__new__" ⟨[.ref C, .str x tx], []⟩ := by unfold argsOk; kernel_rfl
theorem lazy_check {M : Model} {E : Value → Shared → Prop} {x : Str} {tx : Tok} {Q : Unit → Shared → Prop} (hC : h.get? C = some (excClassObj nm q C N bs bm hdct sn sub ab col dd k0 k1 k2 k3 k5 "str.__new__"))
    (hcS : (Value.ref C :: bm).contains (.type "str") = true) (hq : Q () ⟨h, g, d, t, os⟩) : wpAny M A (checkBuiltinCall "str.__new__" ⟨[.ref C, .str x tx], []⟩) Q E ⟨h, g, d, t, os⟩ := by
  have ha := sn_args C x tx
  simp only [checkBuiltinCall, sn_kind, sn_split]
  have hsig2 : ∀ sig, Manifest.signature? "str.__new__" = some sig → Bind.checkArgs "str.__new__" sig ⟨[.ref C, .str x tx], []⟩ = pure () := fun sig hsig => by
    simp only [argsOk, hsig] at ha
    exact ha
  generalize Manifest.signature? "str.__new__" = sg at hsig2
  repeat (first | (with_reducible refine wpAny_loadPart_at hC ?_) | ((with_reducible refine wpAny_isSubtype_exc hC ?_); rw [hcS]) | (with_reducible refine wpAny_staticBase_exc hC ?_) | (with_reducible refine wpAny_madeBy_exc hC ?_) | simp only [beq_self_eq_true, if_true, Bool.not_true, bne_self_eq_false, Bool.false_eq_true, if_false] | wp_step)
  cases sg with
  | none =>
    repeat (first | (with_reducible refine wpAny_loadPart_at hC ?_) | ((with_reducible refine wpAny_isSubtype_exc hC ?_); rw [hcS]) | (with_reducible refine wpAny_staticBase_exc hC ?_) | (with_reducible refine wpAny_madeBy_exc hC ?_) | simp only [beq_self_eq_true, if_true, Bool.not_true, bne_self_eq_false, Bool.false_eq_true, if_false] | wp_step)
    exact hq
  | some sig =>
    have h2 := hsig2 sig rfl
    repeat (first | rw [h2] | (with_reducible refine wpAny_loadPart_at hC ?_) | ((with_reducible refine wpAny_isSubtype_exc hC ?_); rw [hcS]) | (with_reducible refine wpAny_staticBase_exc hC ?_) | (with_reducible refine wpAny_madeBy_exc hC ?_) | simp only [beq_self_eq_true, if_true, Bool.not_true, bne_self_eq_false, Bool.false_eq_true, if_false] | wp_step)
    exact hq
theorem lazy_new {x : Str} {tx : Tok} (hC : h.get? C = some (excClassObj nm q C N bs bm hdct sn sub ab col dd k0 k1 k2 k3 k5 "str.__new__"))
    (hcS : (Value.ref C :: bm).contains (.type "str") = true) (hx : x.length ≤ sizeLine)
    (hq : ∀ t1 t2, R (.ok (.ret (.ref (h.objs.size + 1)))) ⟨(h.push emptyDict).push (lazyObj C h.objs.size x t1), g, d, t2, os⟩) :
    codeAny (model prog w) A (.call (.builtin "str.__new__") ⟨[.ref C, .str x tx], []⟩) R ⟨h, g, d, t, os⟩ := by
  refine codeAny_call_builtin_code (plainId_quiet (by decide +kernel) _) (lazy_check hC hcS ?_)
  refine codeAny_builtin PySem.F.entry_str_new ?_
  unfold Builtin.«str.__new__»
  repeat (first | (with_reducible refine wpAny_loadPart_at hC ?_) | ((with_reducible refine wpAny_isSubtype_exc hC ?_); rw [hcS]) | simp only [beq_self_eq_true, if_true, Bool.not_true, bne_self_eq_false, Bool.false_eq_true, if_false] | wp_step)
  show wpAny _ _ (alloc emptyDict >>= fun x => pure (some x)) _ _ _
  have hC' := Heap.get?_push_of_some (lazyObj C (h.push emptyDict).objs.size.pred x t) (Heap.get?_push_of_some emptyDict hC)
  refine wpAny_bind (wpAny_alloc (wpAny_pure ?_))
  refine wpAny_bind (wpAny_mkStr' ?_ hx)
  refine wpAny_bind ?_
  unfold newObj
  have hpl : (Data.prim (.str x t)).pastItsLine = none := by unfold Data.pastItsLine; simp [hx]
  simp only [hpl]
  unfold newObjAsIs classHasDel
  have hC2 : ((h.push emptyDict).push (lazyObj C h.objs.size x t)).get? C = some (excClassObj nm q C N bs bm hdct sn sub ab col dd k0 k1 k2 k3 k5 "str.__new__") := Heap.get?_push_of_some _ (Heap.get?_push_of_some _ hC)
  repeat (first | (with_reducible refine wpAny_bind (wpAny_alloc ?_)) | (with_reducible refine wpAny_load hC2 ?_) | wp_step)
  have z := hq t (t + 1)
  rw [← Heap.size_push h emptyDict] at z
  exact z
theorem lazy_make {x : Str} {tx : Tok} (X : K.In h) (hC : h.get? C = some (excClassObj nm q C N bs bm hdct sn sub ab col dd k0 k1 k2 k3 k5 "str.__new__"))
    (hcS : (Value.ref C :: bm).contains (.type "str") = true) (hcO : (Value.ref C :: bm).contains (.type "object") = true)
    (hcall : specialIn K (.ref C) "__call__" = some (some (.builtin "type.__call__"))) (htyp : instIn K (.ref C) (.type "type") = some true) (hi : findIn K (.ref C) "__init__" = some (some (.builtin "object.__init__")))
    (hnw : findIn K (.ref C) "__new__" = some (some (.builtin "str.__new__"))) (hx : x.length ≤ sizeLine)
    (hq : ∀ t1 t2, R (.ok (.ret (.ref (h.objs.size + 1)))) ⟨(h.push emptyDict).push (lazyObj C h.objs.size x t1), g, d, t2, os⟩) :
    codeAny (model prog w) A (.call (.ref C) ⟨[.str x tx], []⟩) R ⟨h, g, d, t, os⟩ := by
  have call := looks_specialIn (M := model prog w) X hcall
  have typ := looks_instIn (M := model prog w) X htyp
  refine codeAny_of_tree ?_
  show wpAny _ _ (callAny (.ref C) _) _ _ _
  refine nd_load hC ?_
  show wpAny _ _ (callAny.viaDunder (.ref C) _) _ _ _
  unfold callAny.viaDunder
  refine wpAny_bind (call.at ?_)
  dsimp only
  rw [tc_bind]
  refine wpAny_bind (wpAny_pure (wpAny_bind (wpAny_pure ?_)))
  refine wpAny_pure (a := Fin.again (.call (.builtin "type.__call__") ⟨[.ref C, .str x tx], []⟩)) (And.intro rfl ?_)
  refine codeAny_call_builtin_at (Code.quiet_builtin _ (by decide +kernel)) entry_typeCall ?_
  refine @check_slot (model prog w) _ _ _ "type.__call__" "type" "__call__" (.ref C) [.str x tx] [] _ tc_kind tc_split ?_ ?_ ?_
  · exact typ
  · exact tc_args _ _ _
  unfold Builtin.«type.__call__»
  have made : Looks (model prog w) h (Bind.madeBy (.ref C)) (some "str.__new__") := fun A' Q' E' s' k' q' => by
    obtain ⟨h2, g2, d2, t2, os2⟩ := s'
    exact wpAny_madeBy_exc (k' _ _ hC) q'
  have hm : Looks (model prog w) h (mroOf (.ref C)) (.ref C :: bm) := ((Looks.ld (part := none) hC).andThen .now).andThen .now
  repeat (first | simp only [List.isEmpty_cons, Bool.false_eq_true, if_false] | with_reducible refine wpAny_call ?_ | lk)
  refine lazy_new hC hcS hx fun t1 t2 => ?_
  have k : ∀ b o, h.get? b = some o → ((h.push emptyDict).push (lazyObj C h.objs.size x t1)).get? b = some o :=
    fun b o e => Heap.get?_push_of_some _ (Heap.get?_push_of_some _ e)
  have hxx : ((h.push emptyDict).push (lazyObj C h.objs.size x t1)).get? (h.objs.size + 1) = some (lazyObj C h.objs.size x t1) := by heap_get
  have t1' : Looks (model prog w) ((h.push emptyDict).push (lazyObj C h.objs.size x t1)) (typeOf (.ref (h.objs.size + 1))) (.ref C) := (Looks.ld hxx).andThen .now
  have s1 : Looks (model prog w) ((h.push emptyDict).push (lazyObj C h.objs.size x t1)) (isSubtype (.ref C) (.ref C)) true := fun A' Q' E' s' k' q' => by
    obtain ⟨h2, g2, d2, t2, os2⟩ := s'
    refine wpAny_isSubtype_exc (k' _ _ (k _ _ hC)) ?_
    rw [show (Value.ref C :: bm).contains (.ref C) = true from by simp]
    exact q'
  have s2 : Looks (model prog w) ((h.push emptyDict).push (lazyObj C h.objs.size x t1)) (isSubtype (.ref C) (.type "object")) true := fun A' Q' E' s' k' q' => by
    obtain ⟨h2, g2, d2, t2, os2⟩ := s'
    refine wpAny_isSubtype_exc (k' _ _ (k _ _ hC)) ?_
    rw [hcO]
    exact q'
  have i1 := (looks_findIn (M := model prog w) X hi).keeps k
  have i2 := (looks_findIn (M := model prog w) X hnw).keeps k
  have b1 : Looks (model prog w) ((h.push emptyDict).push (lazyObj C h.objs.size x t1)) (bindSpecial (.builtin "object.__init__") (.ref (h.objs.size + 1))) (.builtin "object.__init__", [.ref (h.objs.size + 1)]) := Looks.of_pure (oi_bind _)
  unfold isInstance callSpecial? specialOf
  repeat (first | with_reducible refine wpAny_call ?_ | lk)
  have m2 : Looks (model prog w) ((h.push emptyDict).push (lazyObj C h.objs.size x t1)) (Bind.madeBy (.ref C)) (some "str.__new__") := made.keeps k
  have o1 : Looks (model prog w) ((h.push emptyDict).push (lazyObj C h.objs.size x t1)) (isInstance (.ref (h.objs.size + 1)) (.type "object")) true := t1'.andThen s2
  have oa : argsOk "object.__init__" ⟨[.ref (h.objs.size + 1), .str x tx], []⟩ := by unfold argsOk; kernel_rfl
  refine codeAny_call_builtin oi_plain entry_oi ?_
  show wpAny _ _ (checkBuiltinCall "object.__init__" ⟨[.ref (h.objs.size + 1), .str x tx], []⟩) _ _ _
  refine @check_slot (model prog w) _ _ _ "object.__init__" "object" "__init__" (.ref (h.objs.size + 1)) [.str x tx] [] _ oi_kind oi_split ?_ oa ?_
  · exact o1
  unfold Builtin.«object.__init__»
  repeat (first | simp only [List.isEmpty_cons, Bool.not_false, Bool.true_or, if_true, Bool.false_eq_true, if_false] | lk)
  exact hq t1 t2
end
section
variable {prog : Program} {w : World} {A : Around} {E : Value → Shared → Prop} {s : Shared} {K : Frag} {h₀ : Heap} {L : Addr} {m : Str → Option Value} {news : List (Addr × Obj)}
variable {nm q : Str} {C N : Addr} {bs bm : List Value} {hdct : Bool} {sn : List Str} {sub : List Value} {ab : Bool} {col : Option Bool} {dd : Option Addr} {k0 k1 k2 k3 k5 : Option Value}
theorem lazy_callK {x : Str} {tx : Tok} {Q : Value → Shared → Prop} (F : Fr h₀ L s.heap m) (X₀ : K.In h₀) (N' : News h₀ L s.heap news) (hC : K.lookup C = some (excClassObj nm q C N bs bm hdct sn sub ab col dd k0 k1 k2 k3 k5 "str.__new__"))
    (hcS : (Value.ref C :: bm).contains (.type "str") = true) (hcO : (Value.ref C :: bm).contains (.type "object") = true)
    (hcall : specialIn K (.ref C) "__call__" = some (some (.builtin "type.__call__"))) (htyp : instIn K (.ref C) (.type "type") = some true) (hi : findIn K (.ref C) "__init__" = some (some (.builtin "object.__init__")))
    (hnw : findIn K (.ref C) "__new__" = some (some (.builtin "str.__new__"))) (hx : x.length ≤ sizeLine)
    (h : ∀ a dx t1 tk h', Fr h₀ L h' m → News h₀ L h' ((a, lazyObj C dx x t1) :: (dx, dictOf [] 0) :: news) → (∀ p ∈ news, p.1 < dx) → dx < a → Q (.ref a) { s with heap := h', toks := tk }) :
    wpAny (model prog w) A (call (.ref C) [.str x tx]) Q E s := by
  obtain ⟨hh, g, d, t, os⟩ := s
  have X := X₀.keeps F.keep
  refine wpAny_call (lazy_make X (X _ _ hC) hcS hcO hcall htyp hi hnw hx fun t1 t2 => ?_)
  refine h _ hh.objs.size t1 t2 _ ((F.push _).push _) ?_ (fun p hp => Heap.lt_size (N' p hp).1) (Nat.lt_succ_self _)
  have := (N'.push F emptyDict).push (F.push _) (lazyObj C hh.objs.size x t1)
  rwa [Heap.size_push] at this
end
end Mine
end
section
open PySem PySem.W PyProof.Rows PyProof.V PySem.Calls PySem.Spec
set_option Elab.async false
set_option maxRecDepth 100000
set_option maxHeartbeats 1000000
namespace Mine
section
variable {prog : Program} {w : World} {A A₀ : Around} {s : Shared} {K : Frag} {L : Addr} {h₀ base : Heap} {m mg mb : Str → Option Value} {news : List (Addr × Obj)} {p : Program} {loose : List Str} {mean : ExcName → Option Value} {env : Env} {outer : List Env} {R : Result → Shared → Prop} {name qual : Str} {params : Arguments} {body : List Stmt} {scope : Scope} {dV kV doc pm cdv ct oc : Value} {an od : Option Addr} {osl : Array (Option Value)} {f cc : Addr}
/-- the frame of a method that calls super() -/
theorem frame_super {E : Value → Shared → Prop} {binds : List (Str × Value)} (B : Below A₀ base outer h₀) (F : Fr h₀ L s.heap m) (N : News h₀ L s.heap news) (hlim : h₀.NoLimit) (hA : A.frames = some (env :: outer)) (hf : env.frame = some L) (hke : env.scope.kind = .function)
    (hloc : ∀ y ∈ binds, scope.names.lookup y.1 = some .local)
    (h : ∀ g L' h₁, Fr h₀ L g m → Fr g L' h₁ (fun y => binds.reverse.lookup y) → News g L' h₁ news → Below A base (env :: outer) g → h₀.StaysIn g → (∀ p ∈ news, p.1 < L') →
      _root_.PySem.wpAt (model prog w) (A.deeper (ksEnv qual scope L' f cdv cc)) (.func body (ksEnv qual scope L' f cdv cc)) (execs body (ksEnv qual scope L' f cdv cc))
        (fun fl s' => LeaveK h₀ L m g R (match fl with | .ret v => v | _ => .none) s')
        (fun e s' => wpAny (model prog w) (A.deeper (ksEnv qual scope L' f cdv cc)) (leaving (ksEnv qual scope L' f cdv cc) e) (fun _ s'' => R (.error e) s'') (fun e' s'' => R (.error e') s'') s')
        { s with heap := h₁, toks := s.toks + binds.length })
    (hcell : ∀ x ∈ scope.names, x.2 ≠ .cell) (hk : scope.kind = .function) :
    wpAny (model prog w) A.in1 (newFunctionEnv scope mainGlobals [("__class__", cc)] binds (qual ++ ".<locals>.") (some f) cdv none builtinsNs) (fun env' s₂ => s₂.heap.NoLimit ∧ codeAny (model prog w) A (.func body env') R s₂) E s := by
  obtain ⟨FG, BG, st, lv⟩ := groundX (R := R) B F N hA hf hke
  refine wpAny_newFunctionEnv hcell hloc (fun h₁ hns hsb => ⟨(hlim.keeps F.keep).fresh _ hsb, ks_codeAny_funcAt ?_⟩) hk
  have hk₁ : ∀ b o, s.heap.get? b = some o → h₁.get? b = some o := fun b o e => hsb.extBut b o (Nat.ne_of_lt (Heap.lt_size e)) (Heap.get?_push_of_some _ e)
  exact ks_wpAt_mono (h _ s.heap.objs.size h₁ FG ⟨hns, fun b o e => hk₁ b o (of_hideAll _ e), Nat.le_of_eq (hideAll_size _ _)⟩
    (fun p hp => ⟨hk₁ _ _ (N p hp).1, Nat.ne_of_lt (Heap.lt_size (N p hp).1), hideAll_none _ (List.mem_map_of_mem hp)⟩) BG st (fun p hp => Heap.lt_size (N p hp).1)) (fun fl s' hl => lv _ _ hl) fun _ _ y => y
/-- a method with *args and **kwargs that calls super() -/
theorem both_super {args : Args} {vs : List Value} {nm nr : Str} {ex front : List (Str × Value)} {DD : List (PyData × PyData)} {g₁ : Addr → Sem (List (Str × Value))} {g₂ : Addr → Addr → Sem (List (Str × Value))}
    (B : Below A₀ base outer h₀) (F : Fr h₀ L s.heap m) (X₀ : K.In h₀) (N : News h₀ L s.heap news) (T : Top p loose mean mg mb h₀) (hA : A.frames = some (env :: outer)) (hf : env.frame = some L) (hke : env.scope.kind = .function)
    (ho : K.lookup f = some ⟨oc, od, .func (ksFn name qual params body scope dV kV doc pm an cdv ct cc), osl⟩) (hcd : codeIn K cdv qual = true) (hroom : A.depth < recursionLimit)
    (_hv : args.pos.drop (params.posonlyargs.length + params.args.length) = vs) (_hx : args.kw.filter (fun x => !ownKw params x.1) = ex) (_hnr : params.vararg.map (·.arg) = some nr) (_hnm : params.kwarg.map (·.arg) = some nm) (hn : kwDistinct ex = true) (hD : FlatPairs PyData.str ex DD)
    (_hfr : peek K ⟨prog, w.params⟩ (bindArgs (fnCut (ksFn name qual params body scope dV kV doc pm an cdv ct cc)) (argsCut params args)) = some front)
    (hp : peekA K ⟨prog, w.params⟩ (bindArgs (ksFn name qual params body scope dV kV doc pm an cdv ct cc) args) = some (({ cls := .type "tuple", data := .seq vs.toArray } : Obj), g₁))
    (hp₂ : ∀ D, peekA K ⟨prog, w.params⟩ (g₁ D) = some (dictOf [] 0, g₂ D))
    (hk₂ : ∀ C D, g₂ C D = (forIn ex PUnit.unit (fun x _ => (nsSet D x.1 x.2 >>= fun _ => pure (ForInStep.yield PUnit.unit))) >>= fun _ => pure (front ++ [(nr, Value.ref C)] ++ [(nm, Value.ref D)])))
    (hloc : ∀ C D, ∀ y ∈ front ++ [(nr, Value.ref C)] ++ [(nm, Value.ref D)], scope.names.lookup y.1 = some .local)
    (h : ∀ C D o g L' h₁ tk, (∀ p ∈ news, p.1 < C) → C < D → (D == sysModules) = false → o.IsDictOf (strKind prog w) ex → FlatPairs PyData.str ex DD → Fr h₀ L g m → Fr g L' h₁ (fun y => (front ++ [(nr, Value.ref C)] ++ [(nm, Value.ref D)]).reverse.lookup y) →
      News g L' h₁ ((D, o) :: (C, ({ cls := .type "tuple", data := .seq vs.toArray } : Obj)) :: news) → Below A base (env :: outer) g → K.In g → Top p loose mean mg mb g →
      _root_.PySem.wpAt (model prog w) (A.deeper (ksEnv qual scope L' f cdv cc)) (.func body (ksEnv qual scope L' f cdv cc)) (execs body (ksEnv qual scope L' f cdv cc))
        (fun fl s' => LeaveK h₀ L m g R (match fl with | .ret v => v | _ => .none) s')
        (fun e s' => wpAny (model prog w) (A.deeper (ksEnv qual scope L' f cdv cc)) (leaving (ksEnv qual scope L' f cdv cc) e) (fun _ s'' => R (.error e) s'') (fun e' s'' => R (.error e') s'') s')
        { s with heap := h₁, toks := tk })
    (hco : scope.isCoroutine = false) (hgen : scope.isGenerator = false) (hk : scope.kind = .function)
    (hcell : ∀ x ∈ scope.names, x.2 ≠ .cell) : codeAny (model prog w) A (.call (.ref f) args) R s := by
  have hn' := kwDistinct_nodup hn
  refine codeAny_call_function (fd := ksFn name qual params body scope dV kV doc pm an cdv ct cc) (body := body) hroom ((X₀.keeps F.keep) _ _ ho) rfl hco hgen rfl (codeRec_of (X₀.keeps F.keep) hcd) ?_
  refine wp_of_peekA (o := ({ cls := .type "tuple", data := .seq vs.toArray } : Obj)) F N (X₀.keeps F.keep) rfl _ g₁ hp fun h' F' N' l => ?_
  refine wp_of_peekA (s := { s with heap := h' }) (o := dictOf [] 0) F' N' (X₀.keeps F'.keep) rfl _ (g₂ s.heap.objs.size) (hp₂ _) fun h'' F'' N'' l' => ?_
  rw [hk₂]
  refine wpAny_bind (kp_fill ex { s with heap := h'' } [] 0 F'' N'' (fun p hp => Nat.ne_of_lt (l' p hp)) (fun _ he => nomatch he) (fun _ he => nomatch he) hn' fun h₃ F₃ N₃ => wpAny_pure ?_)
  exact frame_super (s := { s with heap := h₃, toks := s.toks + ex.length }) B F₃ N₃ T.nolimit hA hf hke (hloc _ _)
    (fun g L' h₁ FG FL NG BG st _ => h _ _ _ g L' h₁ _ l (l' _ (.head _)) (F'.notModules (modules_low T.nolimit)) (kp_isDict s.toks (0 + ex.length) hn') hD FG FL NG BG (X₀.keeps st) (T.keeps st)) hcell hk
end
end Mine
end
section
open PySem PySem.W PyProof.Rows PyProof.V PySem.Calls PySem.Spec Builtin Builtin.Str
set_option Elab.async false
set_option maxRecDepth 100000
set_option maxHeartbeats 4000000
namespace Mine
section
variable {prog : Program} {w : World} {A : Around} {E : Value → Shared → Prop} {s : Shared} {K : Frag} {x C : Addr} {od : Option Obj} {ox : Obj} {y : Str} {t : Tok}
theorem lazy_strOf {Q : Value → Shared → Prop} (hu : A.units < cLine) (X : K.In s.heap) (I : InstAt s.heap x ox C od) (hd : ox.data = .prim (.str y t)) (hs : findIn K (.ref C) "__str__" = some (some (.builtin "str.__str__"))) (hst : subIn K (.ref C) (.type "str") = some true) (hy : y.length ≤ sizeLine)
    (h : ∀ t' tk, Q (.str y t') { s with toks := tk }) : wpAny (model prog w) A (PySem.Builtin.Str.strOf (.ref x)) Q E s := by
  have L0 := I.type (M := model prog w)
  have L1 := looks_findIn (M := model prog w) X hs
  have L2 := looks_subIn (M := model prog w) X hst
  have sub : Looks (model prog w) s.heap (isInstance (.ref x) (.type "str")) true := L0.andThen L2
  have S := PySem.F.slot_str_str
  unfold PySem.Builtin.Str.strOf
  rw [show isExactStr (.ref x) = false from rfl]
  refine wpAny_bind (m := cRoomFor _ _) (wpAny_cRoomFor hu ?_)
  unfold callSpecial? specialOf
  refine wpAny_bind ?_
  refine wpAny_bind (wpAny_bind (L0.here (L1.here ?_)))
  dsimp only
  refine wpAny_holding ?_
  rw [S.bind]
  refine wpAny_bind (wpAny_pure ?_)
  dsimp only
  have hk : builtinKind "str.__str__" = some .slot := by decide +kernel
  have hsp : splitId "str.__str__" = some ("str", "__str__") := by decide +kernel
  obtain ⟨hh, g, d, tk, os⟩ := s
  have hx := I.at_
  dsimp only at hx
  refine wpAny_bind (wpAny_call ?_)
  refine codeAny_call_builtin S.plain PySem.F.entry_str_str ?_
  refine @check_slot (model prog w) _ _ _ "str.__str__" "str" "__str__" (.ref x) [] [] _ hk hsp ?_ (PySem.F.args_str_str_1 (.ref x)) ?_
  · exact sub
  unfold Builtin.«str.__str__» strSlot
  refine wpAny_bind (wpAny_bind (wpAny_of_eq (a := (.ref x, [])) (by first | rfl | kernel_rfl) ?_))
  dsimp only
  unfold PySem.Builtin.Str.textOf
  refine wpAny_bind (wpAny_bind ?_)
  show wpAny _ _ (asStr? (.ref x)) _ _ _
  unfold asStr?
  refine wpAny_bind (wpAny_load hx ?_)
  rw [hd]
  refine wpAny_pure (wpAny_pure (wpAny_pure ?_))
  dsimp only
  unfold strUnchanged
  rw [show isExactStr (.ref x) = false from rfl]
  refine wpAny_bind (wpAny_mkStr' ?_ hy)
  refine wpAny_pure ?_
  dsimp only
  refine wpAny_pure ?_
  dsimp only
  refine wpAny_bind (m := asStr? (.str y tk)) (wpAny_pure ?_)
  exact wpAny_pure (h tk (tk + 1))
/-- str(x) of an instance of an own class under str -/
theorem lazy_str {Q : Value → Shared → Prop} (hu : A.in1.in1.units < cLine) (X : K.In s.heap) (I : InstAt s.heap x ox C od) (hd : ox.data = .prim (.str y t)) (hs : findIn K (.ref C) "__str__" = some (some (.builtin "str.__str__"))) (hst : subIn K (.ref C) (.type "str") = some true) (hy : y.length ≤ sizeLine)
    (h : ∀ t' tk, Q (.str y t') { s with toks := tk }) : wpAny (model prog w) A (call (.type "str") [.ref x]) Q E s := by
  refine callType_codes (T := "str") (Bi := Builtin.«object.__init__») (Q₁ := fun r s₁ => ∃ y u, r = .str y u ∧ Q r s₁) PySem.F.called_str (PySem.F.typeCall_str_1 _) PySem.F.entry_object_init ?_ ?_
  · refine codeAny_of_tree ?_
    show wpAny _ A.in1.in1 (do checkBuiltinCall "str.__new__" ⟨[.type "str", .ref x], []⟩; again (.builtin "str.__new__" ⟨[.type "str", .ref x], []⟩)) _ _ s
    refine wpAny_bind (wpAny_of_eq (PySem.F.newCall_str_1 _) (wpAny_pure ⟨plainId_quiet (by decide +kernel) _, codeAny_builtin PySem.F.entry_str_new ?_⟩))
    rw [Around.under_plainId (by decide +kernel) _]
    rw [str_new_tree]
    refine wpAny_bind (wpAny_pure ?_)
    refine wpAny_bind (wpAny_of_eq isSubtype_str_str ?_)
    refine wpAny_bind (lazy_strOf (Q := fun r s₁ => _) hu X I hd hs hst hy fun t' tk => ?_)
    exact wpAny_pure ⟨_, _, rfl, h t' tk⟩
  · rintro obj s₁ ⟨y, u, rfl, hq⟩
    exact ⟨typeIs_str _ _ _, PySem.F.args_object_init_2 _ _, object_init_meets PySem.F.called_str.init.lookup PySem.F.called_str.made (by decide) prog w A.in1 _ s₁ ⟨typeIs_str _ _ _, rfl, hq⟩⟩
theorem lazy_strK {h₀ : Heap} {L : Addr} {m : Str → Option Value} {Q : Value → Shared → Prop} (F : Fr h₀ L s.heap m) (X₀ : K.In h₀) (I : InstAt s.heap x ox C od) (hd : ox.data = .prim (.str y t)) (hs : findIn K (.ref C) "__str__" = some (some (.builtin "str.__str__"))) (hst : subIn K (.ref C) (.type "str") = some true) (hy : y.length ≤ sizeLine) (hu : A.in1.in1.units < cLine)
    (h : ∀ t' tk, Q (.str y t') { s with toks := tk }) : wpAny (model prog w) A (call (.type "str") [.ref x]) Q E s := lazy_str hu (X₀.keeps F.keep) I hd hs hst hy h
theorem inst_lazy {h₀ h : Heap} {L dx : Addr} {news : List (Addr × Obj)} {o : Obj} (N : News h₀ L h news) (h1 : (x, lazyObj C dx y t) ∈ news) (h2 : (dx, o) ∈ news) : InstAt h x (lazyObj C dx y t) C (some o) := ⟨(N _ h1).1, rfl, rfl, (N _ h2).1⟩
end
end Mine
end
section
open PySem PySem.W PyProof.Rows PySem.Calls PySem.Spec
set_option Elab.async false
set_option maxRecDepth 100000
set_option maxHeartbeats 8000000
namespace Mine
theorem prime_c274 : (fun (_ : OpenLaw) (_ : Params → Frag) => True) PySem.Challenge.rw_vj0018_01 hd.heap_39 := by
  w_top off
  k_fill
  trivial
local macro_rules | `(tactic| walk_at "no such step") => `(tactic| fail "no such step")
local macro_rules | `(tactic| k_room) => `(tactic| first
  | ((try simp only [depth_mark, depth_under_make, depth_under_kw, depth_in1, depth_deeper, depth_caller]); decide)
  | ((try simp only [depth_mark, depth_under_make, depth_under_kw, depth_in1, depth_deeper, depth_caller]); (try dsimp only [ktrTop]); (simp only [recursionLimit] at *); omega))
local macro_rules | `(tactic| k_units) => `(tactic| first
  | exact Nat.le_of_ble_eq_true rfl
  | (have hcL9 := cLine_is; (try simp only [units_in1, units_deeper, Around.mark_units, units_caller] at *); (try dsimp only [ktrTop] at *); omega))
local macro_rules | `(tactic| walk_at "call ref") => `(tactic| (k_here; ks_any; k_dflt (
   (refine' call_cls ?k1 ?k2 ?k3 ?k4 ?k5 ?k6 ?_; (case k1 => k_asm); (case k2 => k_asm); (case k3 => k_asm); (case k4 => k_is); (case k5 => k_is); (case k6 => k_is); intro x' d' h' F' N' l1 l2; (try k_lt l1); (try k_lt2 l2);
    (refine' ks_code_super ?k1 ?k2 ?k3 ?k4 ?k5 ?kA ?kF ?kK ?k6 ?k7 ?k8 ?k9 ?kB ?_ ?c1 ?c2 ?c3 ?c4; (case kA => exact rfl); (case kF => exact rfl); (case kK => exact rfl); (case k1 => k_asm); (case k2 => k_asm); (case k3 => k_asm); (case k4 => k_asm); (case k5 => k_asm); (case k6 => k_is); (case k7 => k_is); (case k8 => k_room); (case k9 => exact binds_K (by k_in) rfl (by k_is) rfl rfl rfl); (case kB => exact locs rfl); (case c1 => decide); (case c2 => exact rfl); (case c3 => exact rfl); (case c4 => exact rfl); intro g' L' h' FG' F' N' B' X' T' l1; (try k_lt l1); (try dsimp only); (try k_lift B'))))))
local macro_rules | `(tactic| k_inst) => `(tactic| first
  | (refine' InstAt.of_news ?N ?h1 ?h2; (case N => k_asm); (case h1 => k_mem); (case h2 => k_mem))
  | (refine' instB ?F ?h1 ?N ?h2; (case F => k_asm); (case h1 => assumption); (case N => k_asm); (case h2 => k_mem))
  | (refine' instBB ?F ?h1 ?h2; (case F => k_asm); (case h1 => assumption); (case h2 => assumption)))
local macro_rules | `(tactic| walk_at "call builtin:getattr") => `(tactic| (k_here; (with_reducible show wpAny _ _ (call (Value.builtin _) [Value.ref _, Value.str _ _, _]) _ _ _); k_dflt (first
  | (refine' ga3_own ?F ?X ?I ?g ?hh ?ha ?hn ?hl ?hv ?hm ?nm ?_; (case I => k_inst); (case F => k_asm); (case X => k_asm); (case g => k_is); (case hh => k_is); (case ha => k_is); (case hn => k_is); (case hl => k_get); (case hv => k_handed); (case hm => k_is); (case nm => decide); k_whole)
  | (refine' ga3_no ?F ?X ?N ?I ?hA ?g ?hh ?ha ?hl ?hm ?nm ?hc ?hcn ?cp ?ms ?_; (case I => k_inst); (case F => k_asm); (case X => k_asm); (case N => k_asm); (case hA => exact rfl); (case g => k_is); (case hh => k_is); (case ha => k_is); (case hl => k_get); (case hm => k_is); (case nm => decide); (case hc => k_is); (case hcn => decide +kernel); (case cp => decide +kernel); (case ms => decide +kernel); k_whole; intro h' tk' F' N'; (try k_sweep)))))
local macro_rules | `(tactic| walk_at "call builtin:len") => `(tactic| (k_here; (with_reducible show wpAny _ _ (call (Value.builtin "len") [Value.ref _]) _ _ _); k_dflt (refine' kda_len (knd := PySem.intKind _ _) ?N ?m ?d ?lo ?fit ?_; (case N => k_asm); (case m => k_mem); (case d => assumption); (case lo => assumption); (case fit => first | omega | (simp only [List.length_append, List.length_cons, List.length_nil]; omega)); k_whole)))
local macro_rules | `(tactic| walk_at "setItem ref int") => `(tactic| (k_here; k_dflt (refine' kda_set (knd := PySem.intKind _ _) ?F ?N ?U ?d (intKind_is _ _ _ _) ?z ?_; (case F => k_asm); (case N => k_asm); (case U => k_updF); (case d => assumption); (case z => (rw [sizeLine_eq]; first | omega | (simp only [List.length_append, List.length_cons, List.length_nil]; omega))); k_whole); intro h' o' F' N' hd'; (try dsimp only at N'); (try rw [stored_new (by assumption)] at hd'); (try k_sweep)))
local macro_rules | `(tactic| walk_at "compareOp In int ref") => `(tactic| (k_here; k_dflt (first
  | (refine' mp_in0 (knd := PySem.intKind _ _) ?N ?m ?d ?lo (intKind_is _ _ _ _) ?hl ?_; (case N => k_asm); (case m => k_mem); (case d => assumption); (case lo => assumption); (case hl => assumption); k_whole)
  | (refine' mp_in1 (knd := PySem.intKind _ _) ?N ?m ?d ?lo (intKind_is _ _ _ _) ?hl ?_; (case N => k_asm); (case m => k_mem); (case d => assumption); (case lo => assumption); (case hl => assumption); k_whole))))
local macro_rules | `(tactic| walk_at "subscriptTail") => `(tactic| (k_here; (with_reducible show wpAny _ _ (subscriptTail _ _ (Value.ref _) (Value.int _ _)) _ _ _); k_dflt (refine' kda_item (knd := PySem.intKind _ _) ?N ?m ?d (intKind_is _ _ _ _) ?hl ?_ ?hs ?hg; (case N => k_asm); (case m => k_mem); (case d => assumption); (case hl => assumption); (case hs => with_unfolding_all rfl); (case hg => (intro _; with_unfolding_all rfl)); k_whole)))
local macro_rules | `(tactic| walk_at "getMethod ref") => `(tactic| (k_here; (with_reducible show wpAny _ _ (getMethod (Value.ref _) (Str.ofString "get") _) _ _ _); k_dflt (refine' kdg_method (knd := PySem.intKind _ _) ?N ?m ?d ?_; (case N => k_asm); (case m => k_mem); (case d => assumption); k_whole)))
local macro_rules | `(tactic| walk_at "call builtin:dict.get") => `(tactic| (k_here; k_dflt (refine' kdg_get1 (knd := PySem.intKind _ _) ?N ?m ?d ?lo (intKind_is _ _ _ _) _ ?hl ?_; (case N => k_asm); (case m => k_mem); (case d => assumption); (case lo => assumption); (case hl => assumption); k_whole); (try dsimp only [Option.getD])))
local macro_rules | `(tactic| walk_at "getAttr ref") => `(tactic| (k_here; k_dflt (refine' exc_getK ?F ?X ?I ?ga ?gt ?hb ?hh ?ha ?hn ?hl ?hv ?_; (case I => (first | (refine' instE ?iN ?i1 ?i2; (case iN => k_asm); (case i1 => k_mem); (case i2 => k_mem)) | (refine' instEB ?iF ?i1 ?iN ?i2; (case iF => k_asm); (case i1 => assumption); (case iN => k_asm); (case i2 => k_mem)))); (case F => k_asm); (case X => k_asm); (case ga => k_is); (case gt => k_is); (case hb => k_is); (case hh => k_is); (case ha => k_is); (case hn => k_is); (case hl => k_get); (case hv => k_handed); k_whole)))
local macro_rules | `(tactic| walk_at "setAttr ref") => `(tactic| (k_here; k_dflt (first
  | (refine' exc_setK ?F ?X ?N ?I ?hd ?hs ?hc ?hp ?hdd ?ho ?ht ?hl ?e ?U ?hz ?_; (case I => (first | (refine' instE ?iN ?i1 ?i2; (case iN => k_asm); (case i1 => k_mem); (case i2 => k_mem)) | (refine' instEB ?iF ?i1 ?iN ?i2; (case iF => k_asm); (case i1 => assumption); (case iN => k_asm); (case i2 => k_mem)))); (case F => k_asm); (case X => k_asm); (case N => k_asm); (case hd => exact rfl); (case hs => k_is); (case hc => k_is); (case hp => first | exact pass87 _ | exact pass125 _); (case hdd => exact rfl); (case ho => k_is); (case ht => k_is); (case hl => k_get); (case e => k_put); (case U => k_upd); (case hz => exact Nat.le_of_ble_eq_true rfl); k_whole; intro h' F' N'; (try k_sweep))
  | (refine' exc_set0K ?F ?X ?N ?hs ?hc ?hp ?hdd ?ho ?ht ?U ?_; (case F => k_asm); (case X => k_asm); (case N => k_asm); (case U => (intro d'; k_upd)); (case hs => k_is); (case hc => k_is); (case hp => first | exact pass87 _ | exact pass125 _); (case hdd => exact rfl); (case ho => k_is); (case ht => k_is); k_whole; intro d' h' F' N' l1; (try k_lt l1); (try k_sweep)))))
local macro_rules | `(tactic| walk_at "call ref") => `(tactic| (k_here; k_dflt (refine' exc_callK ?F ?X ?N ?hC ?a ?b ?c ?d ?e ?f ?g ?hr ?_; (case F => k_asm); (case X => k_asm); (case N => k_asm); (case hC => k_is); (case a => decide +kernel); (case b => decide +kernel); (case c => decide +kernel); (case d => k_is); (case e => k_is); (case f => k_is); (case g => k_is); (case hr => exact Nat.le_of_ble_eq_true rfl); k_whole; intro x' t' h' F' N' l1 l2; (try k_lt l1); (try k_lt2 l2); (try k_sweep); k_enter)))
local macro_rules | `(tactic| walk_at "call builtin:getattr") => `(tactic| (k_here; (with_reducible show wpAny _ _ (call (Value.builtin _) [Value.none, Value.str _ _, _]) _ _ _); k_dflt (refine' ga3_noneK ?F ?N ?hA ?nm ?hm ?hz ?_; (case F => k_asm); (case N => k_asm); (case hA => exact rfl); (case nm => decide); (case hm => exact am_miss_of_fast (by kernel_rfl)); (case hz => (rw [sizeLine_eq]; decide)); k_whole; intro h' tk' F' N'; (try k_sweep))))
local macro_rules | `(tactic| walk_at "call builtin:getattr") => `(tactic| (k_here; (with_reducible show wpAny _ _ (call (Value.builtin _) [Value.ref _, Value.str (Str.ofString "name") _, _]) _ _ _); k_dflt (refine' ga_nameK ?F ?X ?N ?e ?d ?_; (case F => k_asm); (case X => k_asm); (case N => k_asm); (case e => assumption); (case d => (first | assumption | (repeat (first | assumption | refine List.Mem.tail _ ?_)))); k_whole; intro nm' tk')))
local macro_rules | `(tactic| walk_at "setAttr ref") => `(tactic| (k_here; (with_reducible show wpAny _ _ (setAttr (Value.ref _) (Str.ofString "expr") _) _ _ _); k_dflt (refine' er_set_expr ?F ?X ?N ?I ?hd ?U ?_; (case I => (first | (refine' instE ?iN ?i1 ?i2; (case iN => k_asm); (case i1 => k_mem); (case i2 => k_mem)) | (refine' instEB ?iF ?i1 ?iN ?i2; (case iF => k_asm); (case i1 => assumption); (case iN => k_asm); (case i2 => k_mem)))); (case F => k_asm); (case X => k_asm); (case N => k_asm); (case hd => exact rfl); (case U => k_upd); k_whole; intro h' F' N'; (try k_sweep))))
local macro_rules | `(tactic| walk_at "setAttr ref") => `(tactic| (k_here; (with_reducible show wpAny _ _ (setAttr (Value.ref _) (Str.ofString "pos") _) _ _ _); k_dflt (refine' er_set_pos ?F ?X ?N ?I ?hd ?U ?_; (case I => (first | (refine' instE ?iN ?i1 ?i2; (case iN => k_asm); (case i1 => k_mem); (case i2 => k_mem)) | (refine' instEB ?iF ?i1 ?iN ?i2; (case iF => k_asm); (case i1 => assumption); (case iN => k_asm); (case i2 => k_mem)))); (case F => k_asm); (case X => k_asm); (case N => k_asm); (case hd => exact rfl); (case U => k_upd); k_whole; intro h' F' N'; (try k_sweep))))
local macro_rules | `(tactic| k_all) => `(tactic| first | (refine ?_; assumption) | exact allLt_at (by assumption) | exact allLt_lt (by assumption) (ltN (by (try dsimp only); omega)))
local macro_rules | `(tactic| k_lt $h:ident) => `(tactic| (replace $h := allLt_of $h; (simp only [AllLt, and_true] at $h:ident); (repeat (refine And.elim ?_ $h; clear $h; intro _ $h))))
local macro_rules | `(tactic| walk_at "execs cons") => `(tactic| (k_here; (with_reducible refine toks_any ?_); intro tk))
local macro_rules | `(tactic| walk_at "execs nil") => `(tactic| (k_here; (with_reducible refine toks_any ?_); intro tk))
theorem allLt_lt2 {d e : Nat} (k : @LT.lt Nat _ d e) : ∀ {l : List (Addr × Obj)}, AllLt d l → ∀ p ∈ l, p.1 ≠ e
  | [], _, _, hp => (List.not_mem_nil hp).elim
  | _ :: _, h, p, hp => by
    rcases List.mem_cons.mp hp with rfl | hp
    · exact Nat.ne_of_lt (Nat.lt_trans h.1 k)
    · exact allLt_lt2 k h.2 p hp
theorem plain_at {d : Nat} {l : List (Addr × Obj)} (h : ∀ p ∈ l, @LT.lt Nat _ p.1 d) : ∀ p ∈ l, p.1 ≠ d := fun p hp => Nat.ne_of_lt (h p hp)
theorem plain_lt {d e : Nat} {l : List (Addr × Obj)} (h : ∀ p ∈ l, @LT.lt Nat _ p.1 d) (k : @LT.lt Nat _ d e) : ∀ p ∈ l, p.1 ≠ e := fun p hp => Nat.ne_of_lt (Nat.lt_trans (h p hp) k)
local macro_rules | `(tactic| k_all) => `(tactic| first | exact plain_at (by assumption) | exact plain_lt (by assumption) (by assumption) | exact allLt_lt2 (by assumption) (by assumption))
theorem c274 {w : World} {x rm : Addr} {need : Nat} {St St' : List (Addr × Obj) → Prop} {Fx : List (Addr × Obj)} (hst : ∀ M, St M → St' M) (hn : 5 ≤ need) : CallE PySem.Challenge.rw_vj0018_01.row.prog w (hd.heap_39 w.params) 389 274 (.ref x) (.ref x) rm need St St' Fx := by
  intro A A₀ env outer base h₀ L m mg mb s p loose mean ps X M Q E hh hA hf hk hd hu B F X₀ T ht hba N hP dj hS hFx ret
  obtain ⟨ah, dp, fr, gd, un⟩ := A
  dsimp only at hh hA hd hu
  subst hh hA
  generalize hW : (389, tabObj ps) :: (X ++ M) = W at N
  refine wpAny_call ?_
  k_dflt (refine' code_def ?k1 ?k2 ?k3 ?k4 ?k5 ?kA ?kF ?kK ?k6 ?k7 ?k8 ?k9 ?kB ?_ ?c2 ?c3 ?c4 ?c5; (case kA => exact rfl); (case kF => exact hf); (case kK => exact hk); (case k1 => exact B); (case k2 => exact F); (case k3 => exact X₀); (case k4 => exact N); (case k5 => exact T); (case k6 => k_is); (case k7 => k_is); (case k8 => k_room); (case k9 => exact BindsTo.of_eq rfl); (case c5 => decide); (case kB => exact locs rfl); (case c2 => exact rfl); (case c3 => exact rfl); (case c4 => exact rfl); k_whole; intro g' L' h' FG' F' N' B' X' T'; (try dsimp only); (try k_lift B'); (try k_fold))
  k_steps
  rename Fr h₀ _ _ _ => F9
  rename News h₀ _ _ _ => N9
  subst hW
  exact ret _ _ _ ps M (Nat.le_refl _) hba ht F9 N9 (hst _ hS) (fun q hq => .inl ⟨q, hq, rfl⟩)
theorem get_lit {w : World} {St : List (Addr × Obj) → Prop} {x dx it : Addr} {v nv : Value} (h : ∀ M, St M → (x, litObj dx v it nv) ∈ M ∧ (dx, dictOf [] 0) ∈ M) : GetE PySem.Challenge.rw_vj0018_01.row.prog w (hd.heap_39 w.params) (Str.ofString "resolve_refs") (.ref x) 274 St := by
  intro A h₀ L m s M pl Q E F X₀ N hS hQ
  obtain ⟨h1, h2⟩ := h M hS
  refine method_inst F X₀ (InstAt.of_news N h1 h2) ?_ ?_ ?_ ?_ hQ
  case refine_1 => k_is
  case refine_2 => k_is
  case refine_3 => k_is
  case refine_4 => exact rfl
theorem get_seq {w : World} {St : List (Addr × Obj) → Prop} {x dx it tm : Addr} {nv : Value} (h : ∀ M, St M → (x, seqObj dx tm it nv) ∈ M ∧ (dx, dictOf [] 0) ∈ M) : GetE PySem.Challenge.rw_vj0018_01.row.prog w (hd.heap_39 w.params) (Str.ofString "resolve_refs") (.ref x) 394 St := by
  intro A h₀ L m s M pl Q E F X₀ N hS hQ
  obtain ⟨h1, h2⟩ := h M hS
  refine method_inst F X₀ (InstAt.of_news N h1 h2) ?_ ?_ ?_ ?_ hQ
  case refine_1 => k_is
  case refine_2 => k_is
  case refine_3 => k_is
  case refine_4 => exact rfl
theorem get_lazy {w : World} {St : List (Addr × Obj) → Prop} {x dx : Addr} {y : Str} {t : Tok} (h : ∀ M, St M → (x, lazyObj 477 dx y t) ∈ M ∧ (dx, dictOf [] 0) ∈ M) : GetE PySem.Challenge.rw_vj0018_01.row.prog w (hd.heap_39 w.params) (Str.ofString "resolve_refs") (.ref x) 467 St := by
  intro A h₀ L m s M pl Q E F X₀ N hS hQ
  obtain ⟨h1, h2⟩ := h M hS
  refine method_inst F X₀ (inst_lazy N h1 h2) ?_ ?_ ?_ ?_ hQ
  case refine_1 => k_is
  case refine_2 => k_is
  case refine_3 => k_is
  case refine_4 => exact rfl
theorem keep274 {w : World} : keepIn (hd.heap_39 w.params) (.ref 274) = true := by k_is
theorem keep394 {w : World} : keepIn (hd.heap_39 w.params) (.ref 394) = true := by k_is
theorem keep467 {w : World} : keepIn (hd.heap_39 w.params) (.ref 467) = true := by k_is
end Mine
end
section
open PySem PySem.W PyProof.Rows PySem.Calls PySem.Spec
set_option Elab.async false
set_option maxRecDepth 100000
set_option maxHeartbeats 8000000
namespace Mine
theorem prime_c467 : (fun (_ : OpenLaw) (_ : Params → Frag) => True) PySem.Challenge.rw_vj0018_01 hd.heap_39 := by
  w_top off
  k_fill
  trivial
local macro_rules | `(tactic| k_room) => `(tactic| first
  | ((try simp only [depth_mark, depth_under_make, depth_under_kw, depth_in1, depth_deeper, depth_caller]); decide)
  | ((try simp only [depth_mark, depth_under_make, depth_under_kw, depth_in1, depth_deeper, depth_caller]); (try dsimp only [ktrTop]); (simp only [recursionLimit] at *); omega))
local macro_rules | `(tactic| k_units) => `(tactic| first
  | exact Nat.le_of_ble_eq_true rfl
  | (have hcL9 := cLine_is; (try simp only [units_in1, units_deeper, Around.mark_units, units_caller] at *); (try dsimp only [ktrTop] at *); omega))
local macro_rules | `(tactic| walk_at "call ref") => `(tactic| (k_here; ks_any; k_dflt (
   (refine' call_cls ?k1 ?k2 ?k3 ?k4 ?k5 ?k6 ?_; (case k1 => k_asm); (case k2 => k_asm); (case k3 => k_asm); (case k4 => k_is); (case k5 => k_is); (case k6 => k_is); intro x' d' h' F' N' l1 l2; (try k_lt l1); (try k_lt2 l2);
    (refine' ks_code_super ?k1 ?k2 ?k3 ?k4 ?k5 ?kA ?kF ?kK ?k6 ?k7 ?k8 ?k9 ?kB ?_ ?c1 ?c2 ?c3 ?c4; (case kA => exact rfl); (case kF => exact rfl); (case kK => exact rfl); (case k1 => k_asm); (case k2 => k_asm); (case k3 => k_asm); (case k4 => k_asm); (case k5 => k_asm); (case k6 => k_is); (case k7 => k_is); (case k8 => k_room); (case k9 => exact binds_K (by k_in) rfl (by k_is) rfl rfl rfl); (case kB => exact locs rfl); (case c1 => decide); (case c2 => exact rfl); (case c3 => exact rfl); (case c4 => exact rfl); intro g' L' h' FG' F' N' B' X' T' l1; (try k_lt l1); (try dsimp only); (try k_lift B'))))))
local macro_rules | `(tactic| k_inst) => `(tactic| first
  | (refine' InstAt.of_news ?N ?h1 ?h2; (case N => k_asm); (case h1 => k_mem); (case h2 => k_mem))
  | (refine' instB ?F ?h1 ?N ?h2; (case F => k_asm); (case h1 => assumption); (case N => k_asm); (case h2 => k_mem))
  | (refine' instBB ?F ?h1 ?h2; (case F => k_asm); (case h1 => assumption); (case h2 => assumption)))
local macro_rules | `(tactic| walk_at "call builtin:getattr") => `(tactic| (k_here; (with_reducible show wpAny _ _ (call (Value.builtin _) [Value.ref _, Value.str _ _, _]) _ _ _); k_dflt (first
  | (refine' ga3_own ?F ?X ?I ?g ?hh ?ha ?hn ?hl ?hv ?hm ?nm ?_; (case I => k_inst); (case F => k_asm); (case X => k_asm); (case g => k_is); (case hh => k_is); (case ha => k_is); (case hn => k_is); (case hl => k_get); (case hv => k_handed); (case hm => k_is); (case nm => decide); k_whole)
  | (refine' ga3_no ?F ?X ?N ?I ?hA ?g ?hh ?ha ?hl ?hm ?nm ?hc ?hcn ?cp ?ms ?_; (case I => k_inst); (case F => k_asm); (case X => k_asm); (case N => k_asm); (case hA => exact rfl); (case g => k_is); (case hh => k_is); (case ha => k_is); (case hl => k_get); (case hm => k_is); (case nm => decide); (case hc => k_is); (case hcn => decide +kernel); (case cp => decide +kernel); (case ms => decide +kernel); k_whole; intro h' tk' F' N'; (try k_sweep)))))
local macro_rules | `(tactic| walk_at "call builtin:len") => `(tactic| (k_here; (with_reducible show wpAny _ _ (call (Value.builtin "len") [Value.ref _]) _ _ _); k_dflt (refine' kda_len (knd := PySem.intKind _ _) ?N ?m ?d ?lo ?fit ?_; (case N => k_asm); (case m => k_mem); (case d => assumption); (case lo => assumption); (case fit => first | omega | (simp only [List.length_append, List.length_cons, List.length_nil]; omega)); k_whole)))
local macro_rules | `(tactic| walk_at "setItem ref int") => `(tactic| (k_here; k_dflt (refine' kda_set (knd := PySem.intKind _ _) ?F ?N ?U ?d (intKind_is _ _ _ _) ?z ?_; (case F => k_asm); (case N => k_asm); (case U => k_updF); (case d => assumption); (case z => (rw [sizeLine_eq]; first | omega | (simp only [List.length_append, List.length_cons, List.length_nil]; omega))); k_whole); intro h' o' F' N' hd'; (try dsimp only at N'); (try rw [stored_new (by assumption)] at hd'); (try k_sweep)))
local macro_rules | `(tactic| walk_at "compareOp In int ref") => `(tactic| (k_here; k_dflt (first
  | (refine' mp_in0 (knd := PySem.intKind _ _) ?N ?m ?d ?lo (intKind_is _ _ _ _) ?hl ?_; (case N => k_asm); (case m => k_mem); (case d => assumption); (case lo => assumption); (case hl => assumption); k_whole)
  | (refine' mp_in1 (knd := PySem.intKind _ _) ?N ?m ?d ?lo (intKind_is _ _ _ _) ?hl ?_; (case N => k_asm); (case m => k_mem); (case d => assumption); (case lo => assumption); (case hl => assumption); k_whole))))
local macro_rules | `(tactic| walk_at "subscriptTail") => `(tactic| (k_here; (with_reducible show wpAny _ _ (subscriptTail _ _ (Value.ref _) (Value.int _ _)) _ _ _); k_dflt (refine' kda_item (knd := PySem.intKind _ _) ?N ?m ?d (intKind_is _ _ _ _) ?hl ?_ ?hs ?hg; (case N => k_asm); (case m => k_mem); (case d => assumption); (case hl => assumption); (case hs => with_unfolding_all rfl); (case hg => (intro _; with_unfolding_all rfl)); k_whole)))
local macro_rules | `(tactic| walk_at "getMethod ref") => `(tactic| (k_here; (with_reducible show wpAny _ _ (getMethod (Value.ref _) (Str.ofString "get") _) _ _ _); k_dflt (refine' kdg_method (knd := PySem.intKind _ _) ?N ?m ?d ?_; (case N => k_asm); (case m => k_mem); (case d => assumption); k_whole)))
local macro_rules | `(tactic| walk_at "call builtin:dict.get") => `(tactic| (k_here; k_dflt (refine' kdg_get1 (knd := PySem.intKind _ _) ?N ?m ?d ?lo (intKind_is _ _ _ _) _ ?hl ?_; (case N => k_asm); (case m => k_mem); (case d => assumption); (case lo => assumption); (case hl => assumption); k_whole); (try dsimp only [Option.getD])))
local macro_rules | `(tactic| walk_at "getAttr ref") => `(tactic| (k_here; k_dflt (refine' exc_getK ?F ?X ?I ?ga ?gt ?hb ?hh ?ha ?hn ?hl ?hv ?_; (case I => (first | (refine' instE ?iN ?i1 ?i2; (case iN => k_asm); (case i1 => k_mem); (case i2 => k_mem)) | (refine' instEB ?iF ?i1 ?iN ?i2; (case iF => k_asm); (case i1 => assumption); (case iN => k_asm); (case i2 => k_mem)))); (case F => k_asm); (case X => k_asm); (case ga => k_is); (case gt => k_is); (case hb => k_is); (case hh => k_is); (case ha => k_is); (case hn => k_is); (case hl => k_get); (case hv => k_handed); k_whole)))
local macro_rules | `(tactic| walk_at "setAttr ref") => `(tactic| (k_here; k_dflt (first
  | (refine' exc_setK ?F ?X ?N ?I ?hd ?hs ?hc ?hp ?hdd ?ho ?ht ?hl ?e ?U ?hz ?_; (case I => (first | (refine' instE ?iN ?i1 ?i2; (case iN => k_asm); (case i1 => k_mem); (case i2 => k_mem)) | (refine' instEB ?iF ?i1 ?iN ?i2; (case iF => k_asm); (case i1 => assumption); (case iN => k_asm); (case i2 => k_mem)))); (case F => k_asm); (case X => k_asm); (case N => k_asm); (case hd => exact rfl); (case hs => k_is); (case hc => k_is); (case hp => first | exact pass87 _ | exact pass125 _); (case hdd => exact rfl); (case ho => k_is); (case ht => k_is); (case hl => k_get); (case e => k_put); (case U => k_upd); (case hz => exact Nat.le_of_ble_eq_true rfl); k_whole; intro h' F' N'; (try k_sweep))
  | (refine' exc_set0K ?F ?X ?N ?hs ?hc ?hp ?hdd ?ho ?ht ?U ?_; (case F => k_asm); (case X => k_asm); (case N => k_asm); (case U => (intro d'; k_upd)); (case hs => k_is); (case hc => k_is); (case hp => first | exact pass87 _ | exact pass125 _); (case hdd => exact rfl); (case ho => k_is); (case ht => k_is); k_whole; intro d' h' F' N' l1; (try k_lt l1); (try k_sweep)))))
local macro_rules | `(tactic| walk_at "call ref") => `(tactic| (k_here; k_dflt (refine' exc_callK ?F ?X ?N ?hC ?a ?b ?c ?d ?e ?f ?g ?hr ?_; (case F => k_asm); (case X => k_asm); (case N => k_asm); (case hC => k_is); (case a => decide +kernel); (case b => decide +kernel); (case c => decide +kernel); (case d => k_is); (case e => k_is); (case f => k_is); (case g => k_is); (case hr => exact Nat.le_of_ble_eq_true rfl); k_whole; intro x' t' h' F' N' l1 l2; (try k_lt l1); (try k_lt2 l2); (try k_sweep); k_enter)))
local macro_rules | `(tactic| walk_at "call builtin:getattr") => `(tactic| (k_here; (with_reducible show wpAny _ _ (call (Value.builtin _) [Value.none, Value.str _ _, _]) _ _ _); k_dflt (refine' ga3_noneK ?F ?N ?hA ?nm ?hm ?hz ?_; (case F => k_asm); (case N => k_asm); (case hA => exact rfl); (case nm => decide); (case hm => exact am_miss_of_fast (by kernel_rfl)); (case hz => (rw [sizeLine_eq]; decide)); k_whole; intro h' tk' F' N'; (try k_sweep))))
local macro_rules | `(tactic| walk_at "call builtin:getattr") => `(tactic| (k_here; (with_reducible show wpAny _ _ (call (Value.builtin _) [Value.ref _, Value.str (Str.ofString "name") _, _]) _ _ _); k_dflt (refine' ga_nameK ?F ?X ?N ?e ?d ?_; (case F => k_asm); (case X => k_asm); (case N => k_asm); (case e => assumption); (case d => (first | assumption | (repeat (first | assumption | refine List.Mem.tail _ ?_)))); k_whole; intro nm' tk')))
local macro_rules | `(tactic| walk_at "setAttr ref") => `(tactic| (k_here; (with_reducible show wpAny _ _ (setAttr (Value.ref _) (Str.ofString "expr") _) _ _ _); k_dflt (refine' er_set_expr ?F ?X ?N ?I ?hd ?U ?_; (case I => (first | (refine' instE ?iN ?i1 ?i2; (case iN => k_asm); (case i1 => k_mem); (case i2 => k_mem)) | (refine' instEB ?iF ?i1 ?iN ?i2; (case iF => k_asm); (case i1 => assumption); (case iN => k_asm); (case i2 => k_mem)))); (case F => k_asm); (case X => k_asm); (case N => k_asm); (case hd => exact rfl); (case U => k_upd); k_whole; intro h' F' N'; (try k_sweep))))
local macro_rules | `(tactic| walk_at "setAttr ref") => `(tactic| (k_here; (with_reducible show wpAny _ _ (setAttr (Value.ref _) (Str.ofString "pos") _) _ _ _); k_dflt (refine' er_set_pos ?F ?X ?N ?I ?hd ?U ?_; (case I => (first | (refine' instE ?iN ?i1 ?i2; (case iN => k_asm); (case i1 => k_mem); (case i2 => k_mem)) | (refine' instEB ?iF ?i1 ?iN ?i2; (case iF => k_asm); (case i1 => assumption); (case iN => k_asm); (case i2 => k_mem)))); (case F => k_asm); (case X => k_asm); (case N => k_asm); (case hd => exact rfl); (case U => k_upd); k_whole; intro h' F' N'; (try k_sweep))))
local macro_rules | `(tactic| k_all) => `(tactic| first | (refine ?_; assumption) | exact allLt_at (by assumption) | exact allLt_lt (by assumption) (ltN (by (try dsimp only); omega)))
local macro_rules | `(tactic| k_lt $h:ident) => `(tactic| (replace $h := allLt_of $h; (simp only [AllLt, and_true] at $h:ident); (repeat (refine And.elim ?_ $h; clear $h; intro _ $h))))
local macro_rules | `(tactic| walk_at "execs cons") => `(tactic| (k_here; (with_reducible refine toks_any ?_); intro tk))
local macro_rules | `(tactic| walk_at "execs nil") => `(tactic| (k_here; (with_reducible refine toks_any ?_); intro tk))
local macro_rules | `(tactic| k_all) => `(tactic| first | exact plain_at (by assumption) | exact plain_lt (by assumption) (by assumption) | exact allLt_lt2 (by assumption) (by assumption))
local macro_rules | `(tactic| k_get) => `(tactic| (refine ?_; assumption))
local macro_rules | `(tactic| walk_at "call type:str") => `(tactic| (k_here; (with_reducible show wpAny _ _ (call (Value.type "str") [Value.ref _]) _ _ _); k_dflt (refine' lazy_strK ?F ?X ?I ?d ?s ?t ?y ?U ?_; (case F => k_asm); (case X => k_asm); (case I => (refine' inst_lazy ?iN ?i1 ?i2; (case iN => k_asm); (case i1 => k_mem); (case i2 => k_mem))); (case d => exact rfl); (case s => k_is); (case t => k_is); (case y => (rw [sizeLine_eq]; decide)); (case U => k_units); k_whole; intro t' tk')))
local macro_rules | `(tactic| walk_at "subscriptTail") => `(tactic| (k_here; (with_reducible show wpAny _ _ (subscriptTail _ _ (Value.ref _) (Value.str _ _)) _ _ _); k_dflt (refine' kda_item (knd := strKind _ _) ?N ?m ?d (strKind_is _ _ _ _) ?hl ?_ ?hs ?hg; (case N => k_asm); (case m => k_mem); (case d => assumption); (case hl => first | rfl | decide); (case hs => with_unfolding_all rfl); (case hg => (intro _; with_unfolding_all rfl)); k_whole)))
theorem c467 {w : World} {Lz dL rm Rr dR tR itR : Addr} {nv : Value} {tz : Tok} {oRM : Obj} {need : Nat} {St St' : List (Addr × Obj) → Prop} {Fx : List (Addr × Obj)} (hst : ∀ M, St M → St' M) (hn : 15 ≤ need)
  (hdm : oRM.IsDictOf (strKind PySem.Challenge.rw_vj0018_01.row.prog w) [(Str.ofString "s", .ref Rr)])
  (hin : ∀ q ∈ [(Lz, lazyObj 477 dL (Str.ofString "s") tz), (dL, dictOf [] 0), (rm, oRM), (Rr, oneObj dR tR itR nv), (dR, dictOf [] 0)], q ∈ Fx ∨ ∀ M, St M → q ∈ M) :
  CallE PySem.Challenge.rw_vj0018_01.row.prog w (hd.heap_39 w.params) 389 467 (.ref Lz) (.ref Rr) rm need St St' Fx := by
  intro A A₀ env outer base h₀ L m mg mb s p loose mean ps X M Q E hh hA hf hk hd hu B F X₀ T ht hba N hP dj hS hFx ret
  obtain ⟨ah, dp, fr, gd, un⟩ := A
  dsimp only at hh hA hd hu
  subst hh hA
  have sub : ∀ q ∈ [(Lz, lazyObj 477 dL (Str.ofString "s") tz), (dL, dictOf [] 0), (rm, oRM), (Rr, oneObj dR tR itR nv), (dR, dictOf [] 0)], q ∈ (389, tabObj ps) :: (X ++ M) := fun q hq =>
    (hin q hq).elim (fun h => .tail _ (List.mem_append_left _ (hFx q h))) fun h => .tail _ (List.mem_append_right _ (h M hS))
  have m1 := sub _ (.head _)
  have m2 := sub _ (.tail _ (.head _))
  have m3 := sub _ (.tail _ (.tail _ (.head _)))
  have m4 := sub _ (.tail _ (.tail _ (.tail _ (.head _))))
  have m5 := sub _ (.tail _ (.tail _ (.tail _ (.tail _ (.head _)))))
  generalize hW : (389, tabObj ps) :: (X ++ M) = W at N m1 m2 m3 m4 m5 sub
  replace N := News.sub N (M' := (Lz, lazyObj 477 dL (Str.ofString "s") tz) :: (dL, dictOf [] 0) :: (rm, oRM) :: (Rr, oneObj dR tR itR nv) :: (dR, dictOf [] 0) :: W) (List.forall_mem_cons.mpr ⟨m1, List.forall_mem_cons.mpr ⟨m2, List.forall_mem_cons.mpr ⟨m3, List.forall_mem_cons.mpr ⟨m4, List.forall_mem_cons.mpr ⟨m5, fun _ h => h⟩⟩⟩⟩⟩)
  clear m1 m2 m3 m4 m5 hin sub
  refine wpAny_call ?_
  k_dflt (refine' code_def ?k1 ?k2 ?k3 ?k4 ?k5 ?kA ?kF ?kK ?k6 ?k7 ?k8 ?k9 ?kB ?_ ?c2 ?c3 ?c4 ?c5; (case kA => exact rfl); (case kF => exact hf); (case kK => exact hk); (case k1 => exact B); (case k2 => exact F); (case k3 => exact X₀); (case k4 => exact N); (case k5 => exact T); (case k6 => k_is); (case k7 => k_is); (case k8 => k_room); (case k9 => exact BindsTo.of_eq rfl); (case c5 => decide); (case kB => exact locs rfl); (case c2 => exact rfl); (case c3 => exact rfl); (case c4 => exact rfl); k_whole; intro g' L' h' FG' F' N' B' X' T'; (try dsimp only); (try k_lift B'); (try k_fold))
  k_steps
  rename Fr h₀ _ _ _ => F9
  rename News h₀ _ _ _ => N9
  have N10 := News.sub N9 (M' := W) fun q hq => by repeat (first | exact hq | refine List.Mem.tail _ ?_)
  subst hW
  exact ret _ _ _ ps M (Nat.le_refl _) hba ht F9 N10 (hst _ hS) (fun q hq => .inl ⟨q, hq, rfl⟩)
end Mine
end
section
open PySem PySem.W PyProof.Rows PySem.Calls PySem.Spec
set_option Elab.async false
set_option maxRecDepth 100000
set_option maxHeartbeats 8000000
namespace Mine
theorem prime_c394seq : (fun (_ : OpenLaw) (_ : Params → Frag) => True) PySem.Challenge.rw_vj0018_01 hd.heap_39 := by
  w_top off
  k_fill
  trivial
local macro_rules | `(tactic| walk_at "no such step") => `(tactic| fail "no such step")
local macro_rules | `(tactic| k_room) => `(tactic| first
  | ((try simp only [depth_mark, depth_under_make, depth_under_kw, depth_in1, depth_deeper, depth_caller]); decide)
  | ((try simp only [depth_mark, depth_under_make, depth_under_kw, depth_in1, depth_deeper, depth_caller]); (try dsimp only [ktrTop]); (simp only [recursionLimit] at *); omega))
local macro_rules | `(tactic| k_units) => `(tactic| first
  | exact Nat.le_of_ble_eq_true rfl
  | (have hcL9 := cLine_is; (try simp only [units_in1, units_deeper, Around.mark_units, units_caller] at *); (try dsimp only [ktrTop] at *); omega))
local macro_rules | `(tactic| walk_at "call ref") => `(tactic| (k_here; ks_any; k_dflt (
   (refine' call_cls ?k1 ?k2 ?k3 ?k4 ?k5 ?k6 ?_; (case k1 => k_asm); (case k2 => k_asm); (case k3 => k_asm); (case k4 => k_is); (case k5 => k_is); (case k6 => k_is); intro x' d' h' F' N' l1 l2; (try k_lt l1); (try k_lt2 l2);
    (refine' ks_code_super ?k1 ?k2 ?k3 ?k4 ?k5 ?kA ?kF ?kK ?k6 ?k7 ?k8 ?k9 ?kB ?_ ?c1 ?c2 ?c3 ?c4; (case kA => exact rfl); (case kF => exact rfl); (case kK => exact rfl); (case k1 => k_asm); (case k2 => k_asm); (case k3 => k_asm); (case k4 => k_asm); (case k5 => k_asm); (case k6 => k_is); (case k7 => k_is); (case k8 => k_room); (case k9 => exact binds_K (by k_in) rfl (by k_is) rfl rfl rfl); (case kB => exact locs rfl); (case c1 => decide); (case c2 => exact rfl); (case c3 => exact rfl); (case c4 => exact rfl); intro g' L' h' FG' F' N' B' X' T' l1; (try k_lt l1); (try dsimp only); (try k_lift B'))))))
local macro_rules | `(tactic| k_inst) => `(tactic| first
  | (refine' InstAt.of_news ?N ?h1 ?h2; (case N => k_asm); (case h1 => k_mem); (case h2 => k_mem))
  | (refine' instB ?F ?h1 ?N ?h2; (case F => k_asm); (case h1 => assumption); (case N => k_asm); (case h2 => k_mem))
  | (refine' instBB ?F ?h1 ?h2; (case F => k_asm); (case h1 => assumption); (case h2 => assumption)))
local macro_rules | `(tactic| walk_at "call builtin:getattr") => `(tactic| (k_here; (with_reducible show wpAny _ _ (call (Value.builtin _) [Value.ref _, Value.str _ _, _]) _ _ _); k_dflt (first
  | (refine' ga3_own ?F ?X ?I ?g ?hh ?ha ?hn ?hl ?hv ?hm ?nm ?_; (case I => k_inst); (case F => k_asm); (case X => k_asm); (case g => k_is); (case hh => k_is); (case ha => k_is); (case hn => k_is); (case hl => k_get); (case hv => k_handed); (case hm => k_is); (case nm => decide); k_whole)
  | (refine' ga3_no ?F ?X ?N ?I ?hA ?g ?hh ?ha ?hl ?hm ?nm ?hc ?hcn ?cp ?ms ?_; (case I => k_inst); (case F => k_asm); (case X => k_asm); (case N => k_asm); (case hA => exact rfl); (case g => k_is); (case hh => k_is); (case ha => k_is); (case hl => k_get); (case hm => k_is); (case nm => decide); (case hc => k_is); (case hcn => decide +kernel); (case cp => decide +kernel); (case ms => decide +kernel); k_whole; intro h' tk' F' N'; (try k_sweep)))))
local macro_rules | `(tactic| walk_at "call builtin:len") => `(tactic| (k_here; (with_reducible show wpAny _ _ (call (Value.builtin "len") [Value.ref _]) _ _ _); k_dflt (refine' kda_len (knd := PySem.intKind _ _) ?N ?m ?d ?lo ?fit ?_; (case N => k_asm); (case m => k_mem); (case d => assumption); (case lo => assumption); (case fit => first | omega | (simp only [List.length_append, List.length_cons, List.length_nil]; omega)); k_whole)))
local macro_rules | `(tactic| walk_at "setItem ref int") => `(tactic| (k_here; k_dflt (refine' kda_set (knd := PySem.intKind _ _) ?F ?N ?U ?d (intKind_is _ _ _ _) ?z ?_; (case F => k_asm); (case N => k_asm); (case U => k_updF); (case d => assumption); (case z => (rw [sizeLine_eq]; first | omega | (simp only [List.length_append, List.length_cons, List.length_nil]; omega))); k_whole); intro h' o' F' N' hd'; (try dsimp only at N'); (try rw [stored_new (by assumption)] at hd'); (try k_sweep)))
local macro_rules | `(tactic| walk_at "compareOp In int ref") => `(tactic| (k_here; k_dflt (first
  | (refine' mp_in0 (knd := PySem.intKind _ _) ?N ?m ?d ?lo (intKind_is _ _ _ _) ?hl ?_; (case N => k_asm); (case m => k_mem); (case d => assumption); (case lo => assumption); (case hl => assumption); k_whole)
  | (refine' mp_in1 (knd := PySem.intKind _ _) ?N ?m ?d ?lo (intKind_is _ _ _ _) ?hl ?_; (case N => k_asm); (case m => k_mem); (case d => assumption); (case lo => assumption); (case hl => assumption); k_whole))))
local macro_rules | `(tactic| walk_at "subscriptTail") => `(tactic| (k_here; (with_reducible show wpAny _ _ (subscriptTail _ _ (Value.ref _) (Value.int _ _)) _ _ _); k_dflt (refine' kda_item (knd := PySem.intKind _ _) ?N ?m ?d (intKind_is _ _ _ _) ?hl ?_ ?hs ?hg; (case N => k_asm); (case m => k_mem); (case d => assumption); (case hl => assumption); (case hs => with_unfolding_all rfl); (case hg => (intro _; with_unfolding_all rfl)); k_whole)))
local macro_rules | `(tactic| walk_at "getMethod ref") => `(tactic| (k_here; (with_reducible show wpAny _ _ (getMethod (Value.ref _) (Str.ofString "get") _) _ _ _); k_dflt (refine' kdg_method (knd := PySem.intKind _ _) ?N ?m ?d ?_; (case N => k_asm); (case m => k_mem); (case d => assumption); k_whole)))
local macro_rules | `(tactic| walk_at "call builtin:dict.get") => `(tactic| (k_here; k_dflt (refine' kdg_get1 (knd := PySem.intKind _ _) ?N ?m ?d ?lo (intKind_is _ _ _ _) _ ?hl ?_; (case N => k_asm); (case m => k_mem); (case d => assumption); (case lo => assumption); (case hl => assumption); k_whole); (try dsimp only [Option.getD])))
local macro_rules | `(tactic| walk_at "getAttr ref") => `(tactic| (k_here; k_dflt (refine' exc_getK ?F ?X ?I ?ga ?gt ?hb ?hh ?ha ?hn ?hl ?hv ?_; (case I => (first | (refine' instE ?iN ?i1 ?i2; (case iN => k_asm); (case i1 => k_mem); (case i2 => k_mem)) | (refine' instEB ?iF ?i1 ?iN ?i2; (case iF => k_asm); (case i1 => assumption); (case iN => k_asm); (case i2 => k_mem)))); (case F => k_asm); (case X => k_asm); (case ga => k_is); (case gt => k_is); (case hb => k_is); (case hh => k_is); (case ha => k_is); (case hn => k_is); (case hl => k_get); (case hv => k_handed); k_whole)))
local macro_rules | `(tactic| walk_at "setAttr ref") => `(tactic| (k_here; k_dflt (first
  | (refine' exc_setK ?F ?X ?N ?I ?hd ?hs ?hc ?hp ?hdd ?ho ?ht ?hl ?e ?U ?hz ?_; (case I => (first | (refine' instE ?iN ?i1 ?i2; (case iN => k_asm); (case i1 => k_mem); (case i2 => k_mem)) | (refine' instEB ?iF ?i1 ?iN ?i2; (case iF => k_asm); (case i1 => assumption); (case iN => k_asm); (case i2 => k_mem)))); (case F => k_asm); (case X => k_asm); (case N => k_asm); (case hd => exact rfl); (case hs => k_is); (case hc => k_is); (case hp => first | exact pass87 _ | exact pass125 _); (case hdd => exact rfl); (case ho => k_is); (case ht => k_is); (case hl => k_get); (case e => k_put); (case U => k_upd); (case hz => exact Nat.le_of_ble_eq_true rfl); k_whole; intro h' F' N'; (try k_sweep))
  | (refine' exc_set0K ?F ?X ?N ?hs ?hc ?hp ?hdd ?ho ?ht ?U ?_; (case F => k_asm); (case X => k_asm); (case N => k_asm); (case U => (intro d'; k_upd)); (case hs => k_is); (case hc => k_is); (case hp => first | exact pass87 _ | exact pass125 _); (case hdd => exact rfl); (case ho => k_is); (case ht => k_is); k_whole; intro d' h' F' N' l1; (try k_lt l1); (try k_sweep)))))
local macro_rules | `(tactic| walk_at "call ref") => `(tactic| (k_here; k_dflt (refine' exc_callK ?F ?X ?N ?hC ?a ?b ?c ?d ?e ?f ?g ?hr ?_; (case F => k_asm); (case X => k_asm); (case N => k_asm); (case hC => k_is); (case a => decide +kernel); (case b => decide +kernel); (case c => decide +kernel); (case d => k_is); (case e => k_is); (case f => k_is); (case g => k_is); (case hr => exact Nat.le_of_ble_eq_true rfl); k_whole; intro x' t' h' F' N' l1 l2; (try k_lt l1); (try k_lt2 l2); (try k_sweep); k_enter)))
local macro_rules | `(tactic| walk_at "call builtin:getattr") => `(tactic| (k_here; (with_reducible show wpAny _ _ (call (Value.builtin _) [Value.none, Value.str _ _, _]) _ _ _); k_dflt (refine' ga3_noneK ?F ?N ?hA ?nm ?hm ?hz ?_; (case F => k_asm); (case N => k_asm); (case hA => exact rfl); (case nm => decide); (case hm => exact am_miss_of_fast (by kernel_rfl)); (case hz => (rw [sizeLine_eq]; decide)); k_whole; intro h' tk' F' N'; (try k_sweep))))
local macro_rules | `(tactic| walk_at "call builtin:getattr") => `(tactic| (k_here; (with_reducible show wpAny _ _ (call (Value.builtin _) [Value.ref _, Value.str (Str.ofString "name") _, _]) _ _ _); k_dflt (refine' ga_nameK ?F ?X ?N ?e ?d ?_; (case F => k_asm); (case X => k_asm); (case N => k_asm); (case e => assumption); (case d => (first | assumption | (repeat (first | assumption | refine List.Mem.tail _ ?_)))); k_whole; intro nm' tk')))
local macro_rules | `(tactic| walk_at "setAttr ref") => `(tactic| (k_here; (with_reducible show wpAny _ _ (setAttr (Value.ref _) (Str.ofString "expr") _) _ _ _); k_dflt (refine' er_set_expr ?F ?X ?N ?I ?hd ?U ?_; (case I => (first | (refine' instE ?iN ?i1 ?i2; (case iN => k_asm); (case i1 => k_mem); (case i2 => k_mem)) | (refine' instEB ?iF ?i1 ?iN ?i2; (case iF => k_asm); (case i1 => assumption); (case iN => k_asm); (case i2 => k_mem)))); (case F => k_asm); (case X => k_asm); (case N => k_asm); (case hd => exact rfl); (case U => k_upd); k_whole; intro h' F' N'; (try k_sweep))))
local macro_rules | `(tactic| walk_at "setAttr ref") => `(tactic| (k_here; (with_reducible show wpAny _ _ (setAttr (Value.ref _) (Str.ofString "pos") _) _ _ _); k_dflt (refine' er_set_pos ?F ?X ?N ?I ?hd ?U ?_; (case I => (first | (refine' instE ?iN ?i1 ?i2; (case iN => k_asm); (case i1 => k_mem); (case i2 => k_mem)) | (refine' instEB ?iF ?i1 ?iN ?i2; (case iF => k_asm); (case i1 => assumption); (case iN => k_asm); (case i2 => k_mem)))); (case F => k_asm); (case X => k_asm); (case N => k_asm); (case hd => exact rfl); (case U => k_upd); k_whole; intro h' F' N'; (try k_sweep))))
local macro_rules | `(tactic| k_all) => `(tactic| first | (refine ?_; assumption) | exact allLt_at (by assumption) | exact allLt_lt (by assumption) (ltN (by (try dsimp only); omega)))
local macro_rules | `(tactic| k_lt $h:ident) => `(tactic| (replace $h := allLt_of $h; (simp only [AllLt, and_true] at $h:ident); (repeat (refine And.elim ?_ $h; clear $h; intro _ $h))))
local macro_rules | `(tactic| walk_at "execs cons") => `(tactic| (k_here; (with_reducible refine toks_any ?_); intro tk))
local macro_rules | `(tactic| walk_at "execs nil") => `(tactic| (k_here; (with_reducible refine toks_any ?_); intro tk))
local macro_rules | `(tactic| k_all) => `(tactic| first | exact plain_at (by assumption) | exact plain_lt (by assumption) (by assumption) | exact allLt_lt2 (by assumption) (by assumption))
local macro_rules | `(tactic| walk_at "eval GeneratorExp") => `(tactic| (k_here; (refine Stop.go ?_)))
local macro_rules | `(tactic| walk_at "call type:tuple") => `(tactic| (k_here; (refine Stop.go ?_)))
theorem perm1seq {α : Type} {a e x d t : α} {X M0 : List α} : ∀ q ∈ a :: e :: x :: d :: t :: (X ++ M0), q ∈ e :: x :: d :: a :: (X ++ (x :: d :: t :: M0)) := by
  intro q hq
  simp only [List.mem_cons, List.mem_append] at hq ⊢
  rcases hq with h | h | h | h | h | h | h <;> simp [h]
theorem perm2seq {α : Type} {x d t : α} {X M0 : List α} : ∀ q ∈ x :: d :: t :: (X ++ M0), q ∈ X ++ (x :: d :: t :: M0) := by
  intro q hq
  simp only [List.mem_cons, List.mem_append] at hq ⊢
  rcases hq with h | h | h | h | h <;> simp [h]
theorem perm3seq {α : Type} {a b e t : α} {Fx X : List α} : ∀ q, q ∈ a :: b :: Fx → (∀ q ∈ Fx, q ∈ X) → q ∈ e :: a :: b :: t :: X := by
  intro q hq h
  simp only [List.mem_cons] at hq ⊢
  rcases hq with h1 | h1 | h1
  · simp [h1]
  · simp [h1]
  · simp [h q h1]
theorem perm4seq {α : Type} {a e x d t n : α} {X M6 : List α} : ∀ q ∈ x :: d :: n :: a :: (X ++ M6), q ∈ n :: a :: ((e :: x :: d :: t :: X) ++ M6) := by
  intro q hq
  simp only [List.mem_cons, List.mem_append] at hq ⊢
  rcases hq with h | h | h | h | h | h <;> simp [h]
theorem perm5seq {α : Type} {a x d n : α} {X M6 : List α} : ∀ q ∈ a :: (X ++ (x :: d :: n :: M6)), q ∈ x :: d :: n :: a :: (X ++ M6) := by
  intro q hq
  simp only [List.mem_cons, List.mem_append] at hq ⊢
  rcases hq with h | h | h | h | h | h <;> simp [h]
theorem c394_seq {w : World} {x dx tm it rm : Addr} {nv : Value} {items : Array Value} {res : Nat → Value} {need : Nat} {St : Nat → List (Addr × Obj) → Prop} {Fx Fe : List (Addr × Obj)}
  (El : ∀ i v, items[i]? = some v → Elem PySem.Challenge.rw_vj0018_01.row.prog w (hd.heap_39 w.params) 389 (Str.ofString "resolve_refs") v (res i) rm need (St i) (St (i + 1)) Fe)
  (hFe : ∀ q ∈ Fe, q ∈ (x, seqObj dx tm it nv) :: (dx, dictOf [] 0) :: Fx) (n1 : x ≠ dx) (n2 : x ≠ tm) (n3 : dx ≠ tm) (hsz : items.size ≤ 10) :
  CallE PySem.Challenge.rw_vj0018_01.row.prog w (hd.heap_39 w.params) 389 394 (.ref x) (.ref x) rm (need + 20)
    (fun M => ∃ M0, M = (x, seqObj dx tm it nv) :: (dx, dictOf [] 0) :: (tm, tupObj items) :: M0 ∧ St 0 M0 ∧ ∀ q ∈ M0, q.1 ≠ x ∧ q.1 ≠ dx ∧ q.1 ≠ tm)
    (fun M => ∃ M0 tn, M = (x, seqObj dx tn it nv) :: (dx, dictOf [] 0) :: (tn, tupObj ((List.range items.size).map res).toArray) :: M0 ∧ St items.size M0 ∧ ∀ q ∈ M0, q.1 ≠ x ∧ q.1 ≠ dx ∧ q.1 ≠ tn) Fx := by
  intro A A₀ env outer base h₀ L m mg mb s p loose mean ps X M Q E hh hA hf hk hd hu B F X₀ T ht hba N hP dj hS hFx ret
  obtain ⟨ah, dp, fr, gd, un⟩ := A
  dsimp only at hh hA hd hu
  subst hh hA
  obtain ⟨M0, hM, hS0, hM0⟩ := hS
  have sub : ∀ q ∈ (x, seqObj dx tm it nv) :: (dx, dictOf [] 0) :: (tm, tupObj items) :: M, q ∈ (389, tabObj ps) :: (X ++ M) := by
    subst hM
    intro q hq
    refine .tail _ (List.mem_append_right _ ?_)
    rcases List.mem_cons.mp hq with rfl | hq
    · exact .head _
    · rcases List.mem_cons.mp hq with rfl | hq
      · exact .tail _ (.head _)
      · rcases List.mem_cons.mp hq with rfl | hq
        · exact .tail _ (.tail _ (.head _))
        · exact hq
  have N0 := N
  generalize hW : (389, tabObj ps) :: (X ++ M) = W at N sub
  replace N := News.sub N (M' := (x, seqObj dx tm it nv) :: (dx, dictOf [] 0) :: W) (List.forall_mem_cons.mpr ⟨sub _ (.head _), List.forall_mem_cons.mpr ⟨sub _ (.tail _ (.head _)), fun _ h => h⟩⟩)
  refine wpAny_call ?_
  k_dflt (refine' code_defC ?k1 ?k2 ?k3 ?k4 ?k5 ?kA ?kF ?kK ?k6 ?k7 ?k8 ?k9 ?kB ?kD ?_ ?c2 ?c3 ?c4; (case kA => exact rfl); (case kF => exact hf); (case kK => exact hk); (case k1 => exact B); (case k2 => exact F); (case k3 => exact X₀); (case k4 => exact N); (case k5 => exact T); (case k6 => k_is); (case k7 => k_is); (case k8 => k_room); (case k9 => exact BindsTo.of_eq rfl); (case kB => exact rfl); (case kD => decide +kernel); (case c2 => exact rfl); (case c3 => exact rfl); (case c4 => exact rfl); k_whole; intro g' L' h' tk' cells' FG' F' N' Y' B' X' T' l1; (have hY := CellsAre.one Y'; obtain ⟨o1, hE', d1⟩ := hY; subst hE'; clear Y'); (try simp only [List.cons_append, List.nil_append] at N'); (try dsimp only); (try k_lift B'); (try k_fold))
  k_steps
  refine Stop.mk ?_
  subst hW
  subst hM
  have lL : @LT.lt Nat _ 389 L' := l1 (389, tabObj ps) (.tail _ (.tail _ (.head _)))
  have N9 : News g' L' h' ((389, tabObj ps) :: (L' + 1, o1) :: (x, seqObj dx tm it nv) :: (dx, dictOf [] 0) :: (tm, tupObj items) :: (X ++ M0)) := News.sub N' fun q hq => perm1seq q hq
  have hne : ∀ q ∈ (L' + 1, o1) :: (x, seqObj dx tm it nv) :: (dx, dictOf [] 0) :: (tm, tupObj items) :: (X ++ M0), q.1 ≠ 389 := by
    intro q hq
    rcases List.mem_cons.mp hq with rfl | hq
    · exact Nat.ne_of_gt (Nat.lt_succ_of_lt lL)
    · exact hP q (perm2seq q hq)
  clear N'
  refine' gen_makeK (cl := [(Str.ofString "rule_map", L' + 1)]) (cl' := [(Str.ofString "rule_map", L' + 1)]) (tm := tm) (items := items) F' N9 T' (codeHd_of_K (c := 393) (P := 389) X' (by kernel_rfl)) ?gc ht hne (.tail _ (.tail _ (.tail _ (.head _)))) ?groom ?giter ?gh ?g1 ?g2 ?g3 ?g4 ?g5 ?g6
  case gc => exact rfl
  case groom => k_room
  case g1 => exact rfl
  case g2 => exact rfl
  case g3 => decide
  case g4 => exact rfl
  case g5 => exact rfl
  case g6 => exact fun _ => rfl
  case giter =>
    intro Q' k
    k_steps
    exact k _
  case gh =>
  intro I C a5 H4 h5 ps5 code5 t1 t2 tk5 F4 N4 ht4 eC k45 ns5 ga ea e5 lI lC F5 N5
  subst eC
  k_steps
  refine Stop.mk ?_
  refine' tuple_genK (prog := PySem.Challenge.rw_vj0018_01.row.prog) (K := Mine.hd.heap_39 w.params) (P := 389) (nm := Str.ofString "resolve_refs") (St := St) (res := res) (items := items) (need := need) (Fx := Fe) (M0 := M0) (tm := tm) (oc := o1) (cc := L' + 1) (rm := rm) (H4 := H4) (I := I) (gi := s.gens.size)
    (X1 := (L' + 1, o1) :: (x, seqObj dx tm it nv) :: (dx, dictOf [] 0) :: (tm, tupObj items) :: X) (fun q hq => ?uFe) El ?u1 ?u2 ?u3 ?u4 ?u5 ?u6 ?u7 ?u8 ?u9 ?u10 ?u11 B' F4 N4 X' T' ht4 k45 ?u21 ns5 ga ea e5 ?u12 ?u20 hne ?u13 hS0 (.head _) d1 (.tail _ (.tail _ (.tail _ (.head _)))) ?u14 ?u15 ?u16 ?u17 ?u18 ?u19
  case u21 => exact AllBare.push hba rfl
  case u12 => exact Array.getElem?_push_size ..
  case u20 => exact fun q hq => (List.mem_cons.mp hq).elim (fun e => e ▸ lI (389, tabObj ps) (.head _)) fun hq => lI q (.tail _ hq)
  case uFe => exact perm3seq q (hFe q hq) hFx
  case u1 => exact rfl
  case u2 => exact rfl
  case u3 => exact rfl
  case u4 => exact rfl
  case u5 => exact rfl
  case u6 => exact rfl
  case u7 => exact rfl
  case u8 => exact rfl
  case u9 => exact rfl
  case u10 => show dp + 1 + 5 + need < recursionLimit; omega
  case u11 => show un + 3 + 40 + 20 * need < cLine; omega
  case u13 =>
    intro z hz q hq
    have lq : @LT.lt Nat _ q.1 L' := l1 q (.tail _ (.tail _ (.tail _ (List.mem_append_right _ (.tail _ (.tail _ (.tail _ hq)))))))
    rcases List.mem_cons.mp hz with rfl | hz
    · exact Nat.ne_of_gt (Nat.lt_succ_of_lt lq)
    · rcases List.mem_cons.mp hz with rfl | hz
      · exact (hM0 q hq).1.symm
      · rcases List.mem_cons.mp hz with rfl | hz
        · exact (hM0 q hq).2.1.symm
        · rcases List.mem_cons.mp hz with rfl | hz
          · exact (hM0 q hq).2.2.symm
          · exact dj z hz q (.tail _ (.tail _ (.tail _ hq)))
  case u14 => exact Nat.le_trans hsz (by rw [sizeLine_eq]; decide)
  case u15 => exact ⟨_, rfl⟩
  case u16 => decide
  case u17 => decide
  case u18 => decide
  case u19 =>
  intro h6 gs6 tk6 ps6 M6 tn6 hgi6 hba6 ht6 F6 N6 hS6 hfr6 hlt6 hM6 hge6
  have lt4 : ∀ z ∈ (389, tabObj ps) :: (X ++ ((x, seqObj dx tm it nv) :: (dx, dictOf [] 0) :: (tm, tupObj items) :: M0)), @LT.lt Nat _ z.1 H4.objs.size := fun z hz => Nat.lt_trans (l1 z (.tail _ (.tail _ hz))) F4.ns.lt
  have N7 := News.sub N6 (M' := (x, seqObj dx tm it nv) :: (dx, dictOf [] 0) :: (tn6, tupObj ((List.range items.size).map res).toArray) :: (389, tabObj ps6) :: (X ++ M6)) fun q hq => perm4seq q hq
  have hx7 : ∀ q ∈ (dx, dictOf [] 0) :: (tn6, tupObj ((List.range items.size).map res).toArray) :: (389, tabObj ps6) :: (X ++ M6), q.1 ≠ x := by
    have hx : (x, seqObj dx tm it nv) ∈ X ++ ((x, seqObj dx tm it nv) :: (dx, dictOf [] 0) :: (tm, tupObj items) :: M0) := List.mem_append_right _ (.head _)
    intro q hq
    rcases List.mem_cons.mp hq with rfl | hq
    · exact n1.symm
    · rcases List.mem_cons.mp hq with rfl | hq
      · exact Nat.ne_of_gt (hlt6 (x, seqObj dx tm it nv) (.tail _ (.tail _ (.head _))))
      · rcases List.mem_cons.mp hq with rfl | hq
        · exact (hP _ hx).symm
        · rcases List.mem_append.mp hq with hq | hq
          · exact dj q hq _ (.head _)
          · exact ((hM6 q hq).2 (x, seqObj dx tm it nv) (.tail _ (.head _))).symm
  generalize hW7 : (tn6, tupObj ((List.range items.size).map res).toArray) :: (389, tabObj ps6) :: (X ++ M6) = W7 at N7 hx7
  clear N6 N5 N9 N4
  dsimp only
  k_steps
  rename Fr h₀ _ _ _ => F9
  rename News h₀ _ _ _ => N10
  subst hW7
  refine ret _ gs6 _ ps6 ((x, seqObj dx tn6 it nv) :: (dx, dictOf [] 0) :: (tn6, tupObj ((List.range items.size).map res).toArray) :: M6) (Nat.le_of_lt hgi6) hba6 ht6 F9 (News.sub N10 fun q hq => perm5seq q hq) ⟨M6, tn6, rfl, hS6, fun q hq => ⟨((hM6 q hq).2 (x, seqObj dx tm it nv) (.tail _ (.head _))).symm, ((hM6 q hq).2 (dx, dictOf [] 0) (.tail _ (.tail _ (.head _)))).symm, Nat.ne_of_lt (hlt6 q (.tail _ (List.mem_append_right _ hq)))⟩⟩ ?_
  intro q hq
  rcases List.mem_cons.mp hq with rfl | hq
  · exact .inl ⟨_, .head _, rfl⟩
  · rcases List.mem_cons.mp hq with rfl | hq
    · exact .inl ⟨_, .tail _ (.head _), rfl⟩
    · rcases List.mem_cons.mp hq with rfl | hq
      · exact .inr fun z hz => Nat.lt_of_lt_of_le (lt4 z hz) hge6
      · rcases hfr6 q hq with ⟨z, hz, e⟩ | hge
        · exact .inl ⟨z, .tail _ (.tail _ (.tail _ hz)), e⟩
        · exact .inr fun z hz => Nat.lt_of_lt_of_le (lt4 z hz) hge
end Mine
end
section
open PySem PySem.W PyProof.Rows PySem.Calls PySem.Spec
set_option Elab.async false
set_option maxRecDepth 100000
set_option maxHeartbeats 8000000
namespace Mine
theorem prime_c394one : (fun (_ : OpenLaw) (_ : Params → Frag) => True) PySem.Challenge.rw_vj0018_01 hd.heap_39 := by
  w_top off
  k_fill
  trivial
local macro_rules | `(tactic| k_room) => `(tactic| first
  | ((try simp only [depth_mark, depth_under_make, depth_under_kw, depth_in1, depth_deeper, depth_caller]); decide)
  | ((try simp only [depth_mark, depth_under_make, depth_under_kw, depth_in1, depth_deeper, depth_caller]); (try dsimp only [ktrTop]); (simp only [recursionLimit] at *); omega))
local macro_rules | `(tactic| k_units) => `(tactic| first
  | exact Nat.le_of_ble_eq_true rfl
  | (have hcL9 := cLine_is; (try simp only [units_in1, units_deeper, Around.mark_units, units_caller] at *); (try dsimp only [ktrTop] at *); omega))
local macro_rules | `(tactic| walk_at "call ref") => `(tactic| (k_here; ks_any; k_dflt (
   (refine' call_cls ?k1 ?k2 ?k3 ?k4 ?k5 ?k6 ?_; (case k1 => k_asm); (case k2 => k_asm); (case k3 => k_asm); (case k4 => k_is); (case k5 => k_is); (case k6 => k_is); intro x' d' h' F' N' l1 l2; (try k_lt l1); (try k_lt2 l2);
    (refine' ks_code_super ?k1 ?k2 ?k3 ?k4 ?k5 ?kA ?kF ?kK ?k6 ?k7 ?k8 ?k9 ?kB ?_ ?c1 ?c2 ?c3 ?c4; (case kA => exact rfl); (case kF => exact rfl); (case kK => exact rfl); (case k1 => k_asm); (case k2 => k_asm); (case k3 => k_asm); (case k4 => k_asm); (case k5 => k_asm); (case k6 => k_is); (case k7 => k_is); (case k8 => k_room); (case k9 => exact binds_K (by k_in) rfl (by k_is) rfl rfl rfl); (case kB => exact locs rfl); (case c1 => decide); (case c2 => exact rfl); (case c3 => exact rfl); (case c4 => exact rfl); intro g' L' h' FG' F' N' B' X' T' l1; (try k_lt l1); (try dsimp only); (try k_lift B'))))))
local macro_rules | `(tactic| k_inst) => `(tactic| first
  | (refine' InstAt.of_news ?N ?h1 ?h2; (case N => k_asm); (case h1 => k_mem); (case h2 => k_mem))
  | (refine' instB ?F ?h1 ?N ?h2; (case F => k_asm); (case h1 => assumption); (case N => k_asm); (case h2 => k_mem))
  | (refine' instBB ?F ?h1 ?h2; (case F => k_asm); (case h1 => assumption); (case h2 => assumption)))
local macro_rules | `(tactic| walk_at "call builtin:getattr") => `(tactic| (k_here; (with_reducible show wpAny _ _ (call (Value.builtin _) [Value.ref _, Value.str _ _, _]) _ _ _); k_dflt (first
  | (refine' ga3_own ?F ?X ?I ?g ?hh ?ha ?hn ?hl ?hv ?hm ?nm ?_; (case I => k_inst); (case F => k_asm); (case X => k_asm); (case g => k_is); (case hh => k_is); (case ha => k_is); (case hn => k_is); (case hl => k_get); (case hv => k_handed); (case hm => k_is); (case nm => decide); k_whole)
  | (refine' ga3_no ?F ?X ?N ?I ?hA ?g ?hh ?ha ?hl ?hm ?nm ?hc ?hcn ?cp ?ms ?_; (case I => k_inst); (case F => k_asm); (case X => k_asm); (case N => k_asm); (case hA => exact rfl); (case g => k_is); (case hh => k_is); (case ha => k_is); (case hl => k_get); (case hm => k_is); (case nm => decide); (case hc => k_is); (case hcn => decide +kernel); (case cp => decide +kernel); (case ms => decide +kernel); k_whole; intro h' tk' F' N'; (try k_sweep)))))
local macro_rules | `(tactic| walk_at "call builtin:len") => `(tactic| (k_here; (with_reducible show wpAny _ _ (call (Value.builtin "len") [Value.ref _]) _ _ _); k_dflt (refine' kda_len (knd := PySem.intKind _ _) ?N ?m ?d ?lo ?fit ?_; (case N => k_asm); (case m => k_mem); (case d => assumption); (case lo => assumption); (case fit => first | omega | (simp only [List.length_append, List.length_cons, List.length_nil]; omega)); k_whole)))
local macro_rules | `(tactic| walk_at "setItem ref int") => `(tactic| (k_here; k_dflt (refine' kda_set (knd := PySem.intKind _ _) ?F ?N ?U ?d (intKind_is _ _ _ _) ?z ?_; (case F => k_asm); (case N => k_asm); (case U => k_updF); (case d => assumption); (case z => (rw [sizeLine_eq]; first | omega | (simp only [List.length_append, List.length_cons, List.length_nil]; omega))); k_whole); intro h' o' F' N' hd'; (try dsimp only at N'); (try rw [stored_new (by assumption)] at hd'); (try k_sweep)))
local macro_rules | `(tactic| walk_at "compareOp In int ref") => `(tactic| (k_here; k_dflt (first
  | (refine' mp_in0 (knd := PySem.intKind _ _) ?N ?m ?d ?lo (intKind_is _ _ _ _) ?hl ?_; (case N => k_asm); (case m => k_mem); (case d => assumption); (case lo => assumption); (case hl => assumption); k_whole)
  | (refine' mp_in1 (knd := PySem.intKind _ _) ?N ?m ?d ?lo (intKind_is _ _ _ _) ?hl ?_; (case N => k_asm); (case m => k_mem); (case d => assumption); (case lo => assumption); (case hl => assumption); k_whole))))
local macro_rules | `(tactic| walk_at "subscriptTail") => `(tactic| (k_here; (with_reducible show wpAny _ _ (subscriptTail _ _ (Value.ref _) (Value.int _ _)) _ _ _); k_dflt (refine' kda_item (knd := PySem.intKind _ _) ?N ?m ?d (intKind_is _ _ _ _) ?hl ?_ ?hs ?hg; (case N => k_asm); (case m => k_mem); (case d => assumption); (case hl => assumption); (case hs => with_unfolding_all rfl); (case hg => (intro _; with_unfolding_all rfl)); k_whole)))
local macro_rules | `(tactic| walk_at "getMethod ref") => `(tactic| (k_here; (with_reducible show wpAny _ _ (getMethod (Value.ref _) (Str.ofString "get") _) _ _ _); k_dflt (refine' kdg_method (knd := PySem.intKind _ _) ?N ?m ?d ?_; (case N => k_asm); (case m => k_mem); (case d => assumption); k_whole)))
local macro_rules | `(tactic| walk_at "call builtin:dict.get") => `(tactic| (k_here; k_dflt (refine' kdg_get1 (knd := PySem.intKind _ _) ?N ?m ?d ?lo (intKind_is _ _ _ _) _ ?hl ?_; (case N => k_asm); (case m => k_mem); (case d => assumption); (case lo => assumption); (case hl => assumption); k_whole); (try dsimp only [Option.getD])))
local macro_rules | `(tactic| walk_at "getAttr ref") => `(tactic| (k_here; k_dflt (refine' exc_getK ?F ?X ?I ?ga ?gt ?hb ?hh ?ha ?hn ?hl ?hv ?_; (case I => (first | (refine' instE ?iN ?i1 ?i2; (case iN => k_asm); (case i1 => k_mem); (case i2 => k_mem)) | (refine' instEB ?iF ?i1 ?iN ?i2; (case iF => k_asm); (case i1 => assumption); (case iN => k_asm); (case i2 => k_mem)))); (case F => k_asm); (case X => k_asm); (case ga => k_is); (case gt => k_is); (case hb => k_is); (case hh => k_is); (case ha => k_is); (case hn => k_is); (case hl => k_get); (case hv => k_handed); k_whole)))
local macro_rules | `(tactic| walk_at "setAttr ref") => `(tactic| (k_here; k_dflt (first
  | (refine' exc_setK ?F ?X ?N ?I ?hd ?hs ?hc ?hp ?hdd ?ho ?ht ?hl ?e ?U ?hz ?_; (case I => (first | (refine' instE ?iN ?i1 ?i2; (case iN => k_asm); (case i1 => k_mem); (case i2 => k_mem)) | (refine' instEB ?iF ?i1 ?iN ?i2; (case iF => k_asm); (case i1 => assumption); (case iN => k_asm); (case i2 => k_mem)))); (case F => k_asm); (case X => k_asm); (case N => k_asm); (case hd => exact rfl); (case hs => k_is); (case hc => k_is); (case hp => first | exact pass87 _ | exact pass125 _); (case hdd => exact rfl); (case ho => k_is); (case ht => k_is); (case hl => k_get); (case e => k_put); (case U => k_upd); (case hz => exact Nat.le_of_ble_eq_true rfl); k_whole; intro h' F' N'; (try k_sweep))
  | (refine' exc_set0K ?F ?X ?N ?hs ?hc ?hp ?hdd ?ho ?ht ?U ?_; (case F => k_asm); (case X => k_asm); (case N => k_asm); (case U => (intro d'; k_upd)); (case hs => k_is); (case hc => k_is); (case hp => first | exact pass87 _ | exact pass125 _); (case hdd => exact rfl); (case ho => k_is); (case ht => k_is); k_whole; intro d' h' F' N' l1; (try k_lt l1); (try k_sweep)))))
local macro_rules | `(tactic| walk_at "call ref") => `(tactic| (k_here; k_dflt (refine' exc_callK ?F ?X ?N ?hC ?a ?b ?c ?d ?e ?f ?g ?hr ?_; (case F => k_asm); (case X => k_asm); (case N => k_asm); (case hC => k_is); (case a => decide +kernel); (case b => decide +kernel); (case c => decide +kernel); (case d => k_is); (case e => k_is); (case f => k_is); (case g => k_is); (case hr => exact Nat.le_of_ble_eq_true rfl); k_whole; intro x' t' h' F' N' l1 l2; (try k_lt l1); (try k_lt2 l2); (try k_sweep); k_enter)))
local macro_rules | `(tactic| walk_at "call builtin:getattr") => `(tactic| (k_here; (with_reducible show wpAny _ _ (call (Value.builtin _) [Value.none, Value.str _ _, _]) _ _ _); k_dflt (refine' ga3_noneK ?F ?N ?hA ?nm ?hm ?hz ?_; (case F => k_asm); (case N => k_asm); (case hA => exact rfl); (case nm => decide); (case hm => exact am_miss_of_fast (by kernel_rfl)); (case hz => (rw [sizeLine_eq]; decide)); k_whole; intro h' tk' F' N'; (try k_sweep))))
local macro_rules | `(tactic| walk_at "call builtin:getattr") => `(tactic| (k_here; (with_reducible show wpAny _ _ (call (Value.builtin _) [Value.ref _, Value.str (Str.ofString "name") _, _]) _ _ _); k_dflt (refine' ga_nameK ?F ?X ?N ?e ?d ?_; (case F => k_asm); (case X => k_asm); (case N => k_asm); (case e => assumption); (case d => (first | assumption | (repeat (first | assumption | refine List.Mem.tail _ ?_)))); k_whole; intro nm' tk')))
local macro_rules | `(tactic| walk_at "setAttr ref") => `(tactic| (k_here; (with_reducible show wpAny _ _ (setAttr (Value.ref _) (Str.ofString "expr") _) _ _ _); k_dflt (refine' er_set_expr ?F ?X ?N ?I ?hd ?U ?_; (case I => (first | (refine' instE ?iN ?i1 ?i2; (case iN => k_asm); (case i1 => k_mem); (case i2 => k_mem)) | (refine' instEB ?iF ?i1 ?iN ?i2; (case iF => k_asm); (case i1 => assumption); (case iN => k_asm); (case i2 => k_mem)))); (case F => k_asm); (case X => k_asm); (case N => k_asm); (case hd => exact rfl); (case U => k_upd); k_whole; intro h' F' N'; (try k_sweep))))
local macro_rules | `(tactic| walk_at "setAttr ref") => `(tactic| (k_here; (with_reducible show wpAny _ _ (setAttr (Value.ref _) (Str.ofString "pos") _) _ _ _); k_dflt (refine' er_set_pos ?F ?X ?N ?I ?hd ?U ?_; (case I => (first | (refine' instE ?iN ?i1 ?i2; (case iN => k_asm); (case i1 => k_mem); (case i2 => k_mem)) | (refine' instEB ?iF ?i1 ?iN ?i2; (case iF => k_asm); (case i1 => assumption); (case iN => k_asm); (case i2 => k_mem)))); (case F => k_asm); (case X => k_asm); (case N => k_asm); (case hd => exact rfl); (case U => k_upd); k_whole; intro h' F' N'; (try k_sweep))))
local macro_rules | `(tactic| k_all) => `(tactic| first | (refine ?_; assumption) | exact allLt_at (by assumption) | exact allLt_lt (by assumption) (ltN (by (try dsimp only); omega)))
local macro_rules | `(tactic| k_lt $h:ident) => `(tactic| (replace $h := allLt_of $h; (simp only [AllLt, and_true] at $h:ident); (repeat (refine And.elim ?_ $h; clear $h; intro _ $h))))
local macro_rules | `(tactic| walk_at "execs cons") => `(tactic| (k_here; (with_reducible refine toks_any ?_); intro tk))
local macro_rules | `(tactic| walk_at "execs nil") => `(tactic| (k_here; (with_reducible refine toks_any ?_); intro tk))
local macro_rules | `(tactic| k_all) => `(tactic| first | exact plain_at (by assumption) | exact plain_lt (by assumption) (by assumption) | exact allLt_lt2 (by assumption) (by assumption))
local macro_rules | `(tactic| walk_at "eval GeneratorExp") => `(tactic| (k_here; (refine Stop.go ?_)))
local macro_rules | `(tactic| walk_at "call type:tuple") => `(tactic| (k_here; (refine Stop.go ?_)))
theorem perm1one {α : Type} {a e x d t : α} {X M0 : List α} : ∀ q ∈ a :: e :: x :: d :: t :: (X ++ M0), q ∈ e :: x :: d :: a :: (X ++ (x :: d :: t :: M0)) := by
  intro q hq
  simp only [List.mem_cons, List.mem_append] at hq ⊢
  rcases hq with h | h | h | h | h | h | h <;> simp [h]
theorem perm2one {α : Type} {x d t : α} {X M0 : List α} : ∀ q ∈ x :: d :: t :: (X ++ M0), q ∈ X ++ (x :: d :: t :: M0) := by
  intro q hq
  simp only [List.mem_cons, List.mem_append] at hq ⊢
  rcases hq with h | h | h | h | h <;> simp [h]
theorem perm3one {α : Type} {a b e t : α} {Fx X : List α} : ∀ q, q ∈ a :: b :: Fx → (∀ q ∈ Fx, q ∈ X) → q ∈ e :: a :: b :: t :: X := by
  intro q hq h
  simp only [List.mem_cons] at hq ⊢
  rcases hq with h1 | h1 | h1
  · simp [h1]
  · simp [h1]
  · simp [h q h1]
theorem perm4one {α : Type} {a e x d t n : α} {X M6 : List α} : ∀ q ∈ x :: d :: n :: a :: (X ++ M6), q ∈ n :: a :: ((e :: x :: d :: t :: X) ++ M6) := by
  intro q hq
  simp only [List.mem_cons, List.mem_append] at hq ⊢
  rcases hq with h | h | h | h | h | h <;> simp [h]
theorem perm5one {α : Type} {a x d n : α} {X M6 : List α} : ∀ q ∈ a :: (X ++ (x :: d :: n :: M6)), q ∈ x :: d :: n :: a :: (X ++ M6) := by
  intro q hq
  simp only [List.mem_cons, List.mem_append] at hq ⊢
  rcases hq with h | h | h | h | h | h <;> simp [h]
theorem c394_one {w : World} {x dx tm it rm : Addr} {nv : Value} {items : Array Value} {res : Nat → Value} {need : Nat} {St : Nat → List (Addr × Obj) → Prop} {Fx Fe : List (Addr × Obj)}
  (El : ∀ i v, items[i]? = some v → Elem PySem.Challenge.rw_vj0018_01.row.prog w (hd.heap_39 w.params) 389 (Str.ofString "resolve_refs") v (res i) rm need (St i) (St (i + 1)) Fe)
  (hFe : ∀ q ∈ Fe, q ∈ (x, oneObj dx tm it nv) :: (dx, dictOf [] 0) :: Fx) (n1 : x ≠ dx) (n2 : x ≠ tm) (n3 : dx ≠ tm) (hsz : items.size ≤ 10) :
  CallE PySem.Challenge.rw_vj0018_01.row.prog w (hd.heap_39 w.params) 389 394 (.ref x) (.ref x) rm (need + 20)
    (fun M => ∃ M0, M = (x, oneObj dx tm it nv) :: (dx, dictOf [] 0) :: (tm, tupObj items) :: M0 ∧ St 0 M0 ∧ ∀ q ∈ M0, q.1 ≠ x ∧ q.1 ≠ dx ∧ q.1 ≠ tm)
    (fun M => ∃ M0 tn, M = (x, oneObj dx tn it nv) :: (dx, dictOf [] 0) :: (tn, tupObj ((List.range items.size).map res).toArray) :: M0 ∧ St items.size M0 ∧ ∀ q ∈ M0, q.1 ≠ x ∧ q.1 ≠ dx ∧ q.1 ≠ tn) Fx := by
  intro A A₀ env outer base h₀ L m mg mb s p loose mean ps X M Q E hh hA hf hk hd hu B F X₀ T ht hba N hP dj hS hFx ret
  obtain ⟨ah, dp, fr, gd, un⟩ := A
  dsimp only at hh hA hd hu
  subst hh hA
  obtain ⟨M0, hM, hS0, hM0⟩ := hS
  have sub : ∀ q ∈ (x, oneObj dx tm it nv) :: (dx, dictOf [] 0) :: (tm, tupObj items) :: M, q ∈ (389, tabObj ps) :: (X ++ M) := by
    subst hM
    intro q hq
    refine .tail _ (List.mem_append_right _ ?_)
    rcases List.mem_cons.mp hq with rfl | hq
    · exact .head _
    · rcases List.mem_cons.mp hq with rfl | hq
      · exact .tail _ (.head _)
      · rcases List.mem_cons.mp hq with rfl | hq
        · exact .tail _ (.tail _ (.head _))
        · exact hq
  have N0 := N
  generalize hW : (389, tabObj ps) :: (X ++ M) = W at N sub
  replace N := News.sub N (M' := (x, oneObj dx tm it nv) :: (dx, dictOf [] 0) :: W) (List.forall_mem_cons.mpr ⟨sub _ (.head _), List.forall_mem_cons.mpr ⟨sub _ (.tail _ (.head _)), fun _ h => h⟩⟩)
  refine wpAny_call ?_
  k_dflt (refine' code_defC ?k1 ?k2 ?k3 ?k4 ?k5 ?kA ?kF ?kK ?k6 ?k7 ?k8 ?k9 ?kB ?kD ?_ ?c2 ?c3 ?c4; (case kA => exact rfl); (case kF => exact hf); (case kK => exact hk); (case k1 => exact B); (case k2 => exact F); (case k3 => exact X₀); (case k4 => exact N); (case k5 => exact T); (case k6 => k_is); (case k7 => k_is); (case k8 => k_room); (case k9 => exact BindsTo.of_eq rfl); (case kB => exact rfl); (case kD => decide +kernel); (case c2 => exact rfl); (case c3 => exact rfl); (case c4 => exact rfl); k_whole; intro g' L' h' tk' cells' FG' F' N' Y' B' X' T' l1; (have hY := CellsAre.one Y'; obtain ⟨o1, hE', d1⟩ := hY; subst hE'; clear Y'); (try simp only [List.cons_append, List.nil_append] at N'); (try dsimp only); (try k_lift B'); (try k_fold))
  k_steps
  refine Stop.mk ?_
  subst hW
  subst hM
  have lL : @LT.lt Nat _ 389 L' := l1 (389, tabObj ps) (.tail _ (.tail _ (.head _)))
  have N9 : News g' L' h' ((389, tabObj ps) :: (L' + 1, o1) :: (x, oneObj dx tm it nv) :: (dx, dictOf [] 0) :: (tm, tupObj items) :: (X ++ M0)) := News.sub N' fun q hq => perm1one q hq
  have hne : ∀ q ∈ (L' + 1, o1) :: (x, oneObj dx tm it nv) :: (dx, dictOf [] 0) :: (tm, tupObj items) :: (X ++ M0), q.1 ≠ 389 := by
    intro q hq
    rcases List.mem_cons.mp hq with rfl | hq
    · exact Nat.ne_of_gt (Nat.lt_succ_of_lt lL)
    · exact hP q (perm2one q hq)
  clear N'
  refine' gen_makeK (cl := [(Str.ofString "rule_map", L' + 1)]) (cl' := [(Str.ofString "rule_map", L' + 1)]) (tm := tm) (items := items) F' N9 T' (codeHd_of_K (c := 393) (P := 389) X' (by kernel_rfl)) ?gc ht hne (.tail _ (.tail _ (.tail _ (.head _)))) ?groom ?giter ?gh ?g1 ?g2 ?g3 ?g4 ?g5 ?g6
  case gc => exact rfl
  case groom => k_room
  case g1 => exact rfl
  case g2 => exact rfl
  case g3 => decide
  case g4 => exact rfl
  case g5 => exact rfl
  case g6 => exact fun _ => rfl
  case giter =>
    intro Q' k
    k_steps
    exact k _
  case gh =>
  intro I C a5 H4 h5 ps5 code5 t1 t2 tk5 F4 N4 ht4 eC k45 ns5 ga ea e5 lI lC F5 N5
  subst eC
  k_steps
  refine Stop.mk ?_
  refine' tuple_genK (prog := PySem.Challenge.rw_vj0018_01.row.prog) (K := Mine.hd.heap_39 w.params) (P := 389) (nm := Str.ofString "resolve_refs") (St := St) (res := res) (items := items) (need := need) (Fx := Fe) (M0 := M0) (tm := tm) (oc := o1) (cc := L' + 1) (rm := rm) (H4 := H4) (I := I) (gi := s.gens.size)
    (X1 := (L' + 1, o1) :: (x, oneObj dx tm it nv) :: (dx, dictOf [] 0) :: (tm, tupObj items) :: X) (fun q hq => ?uFe) El ?u1 ?u2 ?u3 ?u4 ?u5 ?u6 ?u7 ?u8 ?u9 ?u10 ?u11 B' F4 N4 X' T' ht4 k45 ?u21 ns5 ga ea e5 ?u12 ?u20 hne ?u13 hS0 (.head _) d1 (.tail _ (.tail _ (.tail _ (.head _)))) ?u14 ?u15 ?u16 ?u17 ?u18 ?u19
  case u21 => exact AllBare.push hba rfl
  case u12 => exact Array.getElem?_push_size ..
  case u20 => exact fun q hq => (List.mem_cons.mp hq).elim (fun e => e ▸ lI (389, tabObj ps) (.head _)) fun hq => lI q (.tail _ hq)
  case uFe => exact perm3one q (hFe q hq) hFx
  case u1 => exact rfl
  case u2 => exact rfl
  case u3 => exact rfl
  case u4 => exact rfl
  case u5 => exact rfl
  case u6 => exact rfl
  case u7 => exact rfl
  case u8 => exact rfl
  case u9 => exact rfl
  case u10 => show dp + 1 + 5 + need < recursionLimit; omega
  case u11 => show un + 3 + 40 + 20 * need < cLine; omega
  case u13 =>
    intro z hz q hq
    have lq : @LT.lt Nat _ q.1 L' := l1 q (.tail _ (.tail _ (.tail _ (List.mem_append_right _ (.tail _ (.tail _ (.tail _ hq)))))))
    rcases List.mem_cons.mp hz with rfl | hz
    · exact Nat.ne_of_gt (Nat.lt_succ_of_lt lq)
    · rcases List.mem_cons.mp hz with rfl | hz
      · exact (hM0 q hq).1.symm
      · rcases List.mem_cons.mp hz with rfl | hz
        · exact (hM0 q hq).2.1.symm
        · rcases List.mem_cons.mp hz with rfl | hz
          · exact (hM0 q hq).2.2.symm
          · exact dj z hz q (.tail _ (.tail _ (.tail _ hq)))
  case u14 => exact Nat.le_trans hsz (by rw [sizeLine_eq]; decide)
  case u15 => exact ⟨_, rfl⟩
  case u16 => decide
  case u17 => decide
  case u18 => decide
  case u19 =>
  intro h6 gs6 tk6 ps6 M6 tn6 hgi6 hba6 ht6 F6 N6 hS6 hfr6 hlt6 hM6 hge6
  have lt4 : ∀ z ∈ (389, tabObj ps) :: (X ++ ((x, oneObj dx tm it nv) :: (dx, dictOf [] 0) :: (tm, tupObj items) :: M0)), @LT.lt Nat _ z.1 H4.objs.size := fun z hz => Nat.lt_trans (l1 z (.tail _ (.tail _ hz))) F4.ns.lt
  have N7 := News.sub N6 (M' := (x, oneObj dx tm it nv) :: (dx, dictOf [] 0) :: (tn6, tupObj ((List.range items.size).map res).toArray) :: (389, tabObj ps6) :: (X ++ M6)) fun q hq => perm4one q hq
  have hx7 : ∀ q ∈ (dx, dictOf [] 0) :: (tn6, tupObj ((List.range items.size).map res).toArray) :: (389, tabObj ps6) :: (X ++ M6), q.1 ≠ x := by
    have hx : (x, oneObj dx tm it nv) ∈ X ++ ((x, oneObj dx tm it nv) :: (dx, dictOf [] 0) :: (tm, tupObj items) :: M0) := List.mem_append_right _ (.head _)
    intro q hq
    rcases List.mem_cons.mp hq with rfl | hq
    · exact n1.symm
    · rcases List.mem_cons.mp hq with rfl | hq
      · exact Nat.ne_of_gt (hlt6 (x, oneObj dx tm it nv) (.tail _ (.tail _ (.head _))))
      · rcases List.mem_cons.mp hq with rfl | hq
        · exact (hP _ hx).symm
        · rcases List.mem_append.mp hq with hq | hq
          · exact dj q hq _ (.head _)
          · exact ((hM6 q hq).2 (x, oneObj dx tm it nv) (.tail _ (.head _))).symm
  generalize hW7 : (tn6, tupObj ((List.range items.size).map res).toArray) :: (389, tabObj ps6) :: (X ++ M6) = W7 at N7 hx7
  clear N6 N5 N9 N4
  dsimp only
  k_steps
  rename Fr h₀ _ _ _ => F9
  rename News h₀ _ _ _ => N10
  subst hW7
  refine ret _ gs6 _ ps6 ((x, oneObj dx tn6 it nv) :: (dx, dictOf [] 0) :: (tn6, tupObj ((List.range items.size).map res).toArray) :: M6) (Nat.le_of_lt hgi6) hba6 ht6 F9 (News.sub N10 fun q hq => perm5one q hq) ⟨M6, tn6, rfl, hS6, fun q hq => ⟨((hM6 q hq).2 (x, oneObj dx tm it nv) (.tail _ (.head _))).symm, ((hM6 q hq).2 (dx, dictOf [] 0) (.tail _ (.tail _ (.head _)))).symm, Nat.ne_of_lt (hlt6 q (.tail _ (List.mem_append_right _ hq)))⟩⟩ ?_
  intro q hq
  rcases List.mem_cons.mp hq with rfl | hq
  · exact .inl ⟨_, .head _, rfl⟩
  · rcases List.mem_cons.mp hq with rfl | hq
    · exact .inl ⟨_, .tail _ (.head _), rfl⟩
    · rcases List.mem_cons.mp hq with rfl | hq
      · exact .inr fun z hz => Nat.lt_of_lt_of_le (lt4 z hz) hge6
      · rcases hfr6 q hq with ⟨z, hz, e⟩ | hge
        · exact .inl ⟨z, .tail _ (.tail _ (.tail _ hz)), e⟩
        · exact .inr fun z hz => Nat.lt_of_lt_of_le (lt4 z hz) hge
end Mine
end
section
open PySem PySem.W PyProof.Rows PySem.Calls PySem.Spec
set_option Elab.async false
set_option maxRecDepth 100000
set_option maxHeartbeats 1000000
namespace Mine
theorem CallE.mono {prog : Program} {w : World} {K : Frag} {P f : Addr} {v r : Value} {rm : Addr} {need : Nat} {St St' Su Su' : List (Addr × Obj) → Prop} {Fx : List (Addr × Obj)} (h : CallE prog w K P f v r rm need St St' Fx) (h1 : ∀ M, Su M → St M) (h2 : ∀ M, St' M → Su' M) : CallE prog w K P f v r rm need Su Su' Fx := by
  intro A A₀ env outer base h₀ L m mg mb s p loose mean ps X M Q E a1 a2 a3 a4 a5 a6 a7 a8 a9 a10 a11 a12 a13 a14 a15 a16 a17 a18
  exact h a1 a2 a3 a4 a5 a6 a7 a8 a9 a10 a11 a12 a13 a14 a15 (h1 _ a16) a17 fun h' gs tk ps' M' b1 b2 b3 b4 b5 b6 b7 => a18 h' gs tk ps' M' b1 b2 b3 b4 b5 (h2 _ b6) b7
section
variable (R dR tR itR S dS tS itS P dP itP Lz dL Qq dQ itQ T dT itT rm : Addr) (nR nS nP nQ nT lP lQ lT : Value) (tz : Tok) (oRM : Obj)
/-- what the resolving leaves as it is -/
abbrev MMof : List (Addr × Obj) := [(P, litObj dP lP itP nP), (dP, dictOf [] 0), (Lz, lazyObj 477 dL (Str.ofString "s") tz), (dL, dictOf [] 0), (Qq, litObj dQ lQ itQ nQ), (dQ, dictOf [] 0), (T, litObj dT lT itT nT), (dT, dictOf [] 0), (rm, oRM)]
abbrev RSof (vS : Array Value) (MM : List (Addr × Obj)) : List (Addr × Obj) := (R, oneObj dR tR itR nR) :: (dR, dictOf [] 0) :: (tR, tupObj #[.ref S, .ref T]) :: (S, seqObj dS tS itS nS) :: (dS, dictOf [] 0) :: (tS, tupObj vS) :: MM
end
theorem resolve {w : World} {R dR tR itR S dS tS itS P dP itP Lz dL Qq dQ itQ T dT itT rm : Addr} {nR nS nP nQ nT lP lQ lT : Value} {tz : Tok} {oRM : Obj}
    (hdm : oRM.IsDictOf (strKind PySem.Challenge.rw_vj0018_01.row.prog w) [(Str.ofString "s", .ref R)])
    (hpw : (RSof R dR tR itR S dS tS itS T nR nS #[.ref P, .ref Lz, .ref Qq] (MMof P dP itP Lz dL Qq dQ itQ T dT itT rm nP nQ nT lP lQ lT tz oRM)).Pairwise (fun a b => a.1 ≠ b.1)) :
    CallE PySem.Challenge.rw_vj0018_01.row.prog w (hd.heap_39 w.params) 389 394 (.ref R) (.ref R) rm 55
      (fun M => M = RSof R dR tR itR S dS tS itS T nR nS #[.ref P, .ref Lz, .ref Qq] (MMof P dP itP Lz dL Qq dQ itQ T dT itT rm nP nQ nT lP lQ lT tz oRM))
      (fun M => ∃ tR' tS', M = RSof R dR tR' itR S dS tS' itS T nR nS #[.ref P, .ref R, .ref Qq] (MMof P dP itP Lz dL Qq dQ itQ T dT itT rm nP nQ nT lP lQ lT tz oRM)) [] := by
  generalize hMM : MMof P dP itP Lz dL Qq dQ itQ T dT itT rm nP nQ nT lP lQ lT tz oRM = MM at *
  obtain ⟨pR, hpw⟩ := List.pairwise_cons.mp hpw
  obtain ⟨pdR, hpw⟩ := List.pairwise_cons.mp hpw
  obtain ⟨ptR, hpw⟩ := List.pairwise_cons.mp hpw
  obtain ⟨pS, hpw⟩ := List.pairwise_cons.mp hpw
  obtain ⟨pdS, hpw⟩ := List.pairwise_cons.mp hpw
  obtain ⟨ptS, hpw⟩ := List.pairwise_cons.mp hpw
  have elS : ∀ i v, (#[.ref P, .ref Lz, .ref Qq] : Array Value)[i]? = some v → Elem PySem.Challenge.rw_vj0018_01.row.prog w (hd.heap_39 w.params) 389 (Str.ofString "resolve_refs") v ((fun i => match i with | 0 => Value.ref P | 1 => Value.ref R | _ => Value.ref Qq) i) rm 15 (fun M => M = MM) (fun M => M = MM) [(R, oneObj dR tR itR nR), (dR, dictOf [] 0)] := by
    intro i v hv
    match i, hv with
    | 0, hv => cases hv; exact ⟨274, keep274, get_lit (St := fun M => M = MM) (dx := dP) (it := itP) (v := lP) (nv := nP) (fun M h => by subst h hMM; exact ⟨.head _, .tail _ (.head _)⟩), c274 (St := fun M => M = MM) (need := 15) (fun _ h => h) (by decide)⟩
    | 1, hv => cases hv; exact ⟨467, keep467, get_lazy (St := fun M => M = MM) (dx := dL) (y := Str.ofString "s") (t := tz) (fun M h => by subst h hMM; exact ⟨.tail _ (.tail _ (.head _)), .tail _ (.tail _ (.tail _ (.head _)))⟩),
        c467 (St := fun M => M = MM) (need := 15) (Rr := R) (dR := dR) (tR := tR) (itR := itR) (nv := nR) (dL := dL) (tz := tz) (oRM := oRM) (fun _ h => h) (by decide) hdm (List.forall_mem_cons.mpr ⟨.inr fun M h => by subst h hMM; exact .tail _ (.tail _ (.head _)), List.forall_mem_cons.mpr ⟨.inr fun M h => by subst h hMM; exact .tail _ (.tail _ (.tail _ (.head _))), List.forall_mem_cons.mpr ⟨.inr fun M h => by subst h hMM; exact .tail _ (.tail _ (.tail _ (.tail _ (.tail _ (.tail _ (.tail _ (.tail _ (.head _)))))))),
          List.forall_mem_cons.mpr ⟨.inl (.head _), List.forall_mem_cons.mpr ⟨.inl (.tail _ (.head _)), fun _ h => nomatch h⟩⟩⟩⟩⟩)⟩
    | 2, hv => cases hv; exact ⟨274, keep274, get_lit (St := fun M => M = MM) (dx := dQ) (it := itQ) (v := lQ) (nv := nQ) (fun M h => by subst h hMM; exact ⟨.tail _ (.tail _ (.tail _ (.tail _ (.head _)))), .tail _ (.tail _ (.tail _ (.tail _ (.tail _ (.head _)))))⟩), c274 (St := fun M => M = MM) (need := 15) (fun _ h => h) (by decide)⟩
    | n + 3, hv => cases hv
  have cS : CallE PySem.Challenge.rw_vj0018_01.row.prog w (hd.heap_39 w.params) 389 394 (.ref S) (.ref S) rm (15 + 20)
    (fun M => ∃ M0, M = (S, seqObj dS tS itS nS) :: (dS, dictOf [] 0) :: (tS, tupObj #[.ref P, .ref Lz, .ref Qq]) :: M0 ∧ M0 = MM ∧ ∀ q ∈ M0, q.1 ≠ S ∧ q.1 ≠ dS ∧ q.1 ≠ tS)
    (fun M => ∃ M0 tn, M = (S, seqObj dS tn itS nS) :: (dS, dictOf [] 0) :: (tn, tupObj ((List.range 3).map fun i => match i with | 0 => Value.ref P | 1 => Value.ref R | _ => Value.ref Qq).toArray) :: M0 ∧ M0 = MM ∧ ∀ q ∈ M0, q.1 ≠ S ∧ q.1 ≠ dS ∧ q.1 ≠ tn) [(R, oneObj dR tR itR nR), (dR, dictOf [] 0)] := c394_seq (x := S) (dx := dS) (tm := tS) (it := itS) (nv := nS) (items := #[.ref P, .ref Lz, .ref Qq]) (res := fun i => match i with | 0 => Value.ref P | 1 => Value.ref R | _ => Value.ref Qq) (St := fun _ M => M = MM) (Fx := [(R, oneObj dR tR itR nR), (dR, dictOf [] 0)]) elS (fun q hq => .tail _ (.tail _ hq)) (pS _ (.head _)) (pS _ (.tail _ (.head _))) (pdS _ (.head _)) (show (3 : Nat) ≤ 10 by decide)
  have elR : ∀ i v, (#[.ref S, .ref T] : Array Value)[i]? = some v → Elem PySem.Challenge.rw_vj0018_01.row.prog w (hd.heap_39 w.params) 389 (Str.ofString "resolve_refs") v ((fun i => match i with | 0 => Value.ref S | _ => Value.ref T) i) rm 35
      ((fun i M => match i with
        | 0 => M = (S, seqObj dS tS itS nS) :: (dS, dictOf [] 0) :: (tS, tupObj #[.ref P, .ref Lz, .ref Qq]) :: MM
        | _ => ∃ tn, M = (S, seqObj dS tn itS nS) :: (dS, dictOf [] 0) :: (tn, tupObj #[.ref P, .ref R, .ref Qq]) :: MM) i)
      ((fun i M => match i with
        | 0 => M = (S, seqObj dS tS itS nS) :: (dS, dictOf [] 0) :: (tS, tupObj #[.ref P, .ref Lz, .ref Qq]) :: MM
        | _ => ∃ tn, M = (S, seqObj dS tn itS nS) :: (dS, dictOf [] 0) :: (tn, tupObj #[.ref P, .ref R, .ref Qq]) :: MM) (i + 1)) [(R, oneObj dR tR itR nR), (dR, dictOf [] 0)] := by
    intro i v hv
    match i, hv with
    | 0, hv =>
      cases hv
      refine ⟨394, keep394, get_seq (St := fun M => M = (S, seqObj dS tS itS nS) :: (dS, dictOf [] 0) :: (tS, tupObj #[.ref P, .ref Lz, .ref Qq]) :: MM) (dx := dS) (tm := tS) (it := itS) (nv := nS) (fun M h => by subst h; exact ⟨.head _, .tail _ (.head _)⟩), CallE.mono cS (fun M h => ⟨MM, h, rfl, fun q hq => ⟨(pS q (.tail _ (.tail _ hq))).symm, (pdS q (.tail _ hq)).symm, (ptS q hq).symm⟩⟩) fun M h => ?_⟩
      obtain ⟨M0, tn, e, e2, _⟩ := h
      subst e2
      exact ⟨tn, e⟩
    | 1, hv => cases hv; exact ⟨274, keep274, get_lit (St := fun M => ∃ tn, M = (S, seqObj dS tn itS nS) :: (dS, dictOf [] 0) :: (tn, tupObj #[.ref P, .ref R, .ref Qq]) :: MM) (dx := dT) (it := itT) (v := lT) (nv := nT) (fun M h => by obtain ⟨tn, h⟩ := h; subst h hMM; exact ⟨.tail _ (.tail _ (.tail _ (.tail _ (.tail _ (.tail _ (.tail _ (.tail _ (.tail _ (.head _))))))))), .tail _ (.tail _ (.tail _ (.tail _ (.tail _ (.tail _ (.tail _ (.tail _ (.tail _ (.tail _ (.head _))))))))))⟩), c274 (St := fun M => ∃ tn, M = (S, seqObj dS tn itS nS) :: (dS, dictOf [] 0) :: (tn, tupObj #[.ref P, .ref R, .ref Qq]) :: MM) (need := 35) (fun _ h => h) (by decide)⟩
    | n + 2, hv => cases hv
  have cR : CallE PySem.Challenge.rw_vj0018_01.row.prog w (hd.heap_39 w.params) 389 394 (.ref R) (.ref R) rm (35 + 20)
    (fun M => ∃ M0, M = (R, oneObj dR tR itR nR) :: (dR, dictOf [] 0) :: (tR, tupObj #[.ref S, .ref T]) :: M0 ∧ M0 = (S, seqObj dS tS itS nS) :: (dS, dictOf [] 0) :: (tS, tupObj #[.ref P, .ref Lz, .ref Qq]) :: MM ∧ ∀ q ∈ M0, q.1 ≠ R ∧ q.1 ≠ dR ∧ q.1 ≠ tR)
    (fun M => ∃ M0 tn, M = (R, oneObj dR tn itR nR) :: (dR, dictOf [] 0) :: (tn, tupObj ((List.range 2).map fun i => match i with | 0 => Value.ref S | _ => Value.ref T).toArray) :: M0 ∧ (∃ tn, M0 = (S, seqObj dS tn itS nS) :: (dS, dictOf [] 0) :: (tn, tupObj #[.ref P, .ref R, .ref Qq]) :: MM) ∧ ∀ q ∈ M0, q.1 ≠ R ∧ q.1 ≠ dR ∧ q.1 ≠ tn) [] := c394_one (x := R) (dx := dR) (tm := tR) (it := itR) (nv := nR) (items := #[.ref S, .ref T]) (res := fun i => match i with | 0 => Value.ref S | _ => Value.ref T) (St := fun i M => match i with
        | 0 => M = (S, seqObj dS tS itS nS) :: (dS, dictOf [] 0) :: (tS, tupObj #[.ref P, .ref Lz, .ref Qq]) :: MM
        | _ => ∃ tn, M = (S, seqObj dS tn itS nS) :: (dS, dictOf [] 0) :: (tn, tupObj #[.ref P, .ref R, .ref Qq]) :: MM) (Fx := []) elR (fun q hq => by
      rcases List.mem_cons.mp hq with rfl | hq
      · exact .head _
      · rcases List.mem_cons.mp hq with rfl | hq
        · exact .tail _ (.head _)
        · cases hq) (pR _ (.head _)) (pR _ (.tail _ (.head _))) (pdR _ (.head _)) (show (2 : Nat) ≤ 10 by decide)
  apply CallE.mono cR
  · exact fun M h => ⟨_, h, rfl, fun q hq => ⟨(pR q (.tail _ (.tail _ hq))).symm, (pdR q (.tail _ hq)).symm, (ptR q hq).symm⟩⟩
  · intro M h
    obtain ⟨M0, tn, e, ⟨tn2, e2⟩, _⟩ := h
    subst e2
    exact ⟨tn, tn2, e⟩
end Mine
end
section
open PySem PySem.W PyProof.Rows PySem.Calls PySem.Spec
set_option Elab.async false
set_option maxRecDepth 100000
set_option maxHeartbeats 1000000
namespace Mine
/-- a ledger split anew: what is known ahead, the rest behind -/
theorem regroup {h₀ h : Heap} {L : Addr} {M : List (Addr × Obj)} (N : News h₀ L h M) (rest : List (Addr × Obj)) (sub : ∀ p ∈ rest, p ∈ M) :
    ∃ M', (∀ p ∈ rest, ∀ q ∈ M', p.1 ≠ q.1) ∧ (∀ p ∈ M, p ∈ rest ++ M') ∧ (∀ p ∈ M', p ∈ M) := by
  refine ⟨M.filter fun p => decide (∀ z ∈ rest, z.1 ≠ p.1), ?_, ?_, ?_⟩
  · exact fun p hp q hq => of_decide_eq_true (List.mem_filter.mp hq).2 p hp
  · intro p hp
    by_cases z : ∃ q ∈ rest, q.1 = p.1
    · obtain ⟨q, hq, e⟩ := z
      have h1 : (N _ (sub _ hq)).1 = (N _ (sub _ hq)).1 := rfl
      have h2 := (N _ (sub _ hq)).1
      rw [e, (N _ hp).1] at h2
      have h3 : p = q := Prod.ext e.symm (Option.some.inj h2)
      exact List.mem_append_left _ (h3 ▸ hq)
    · exact List.mem_append_right _ (List.mem_filter.mpr ⟨hp, decide_eq_true fun q hq e => z ⟨q, hq, e⟩⟩)
  · exact fun p hp => (List.mem_filter.mp hp).1
theorem Pairs.tup {kn kn' : Addr → Obj → Prop} (k : ∀ b its, kn b (tupObj its) → kn' b (tupObj its)) {vs : List Value} {ps : List (Int × Int)} (h : Pairs kn vs ps) : Pairs kn' vs ps := by
  induction h with
  | nil => exact .nil
  | cons a _ ih => exact .cons (k _ _ a) ih
/-- what is known of a rule outlives the turn of an iterator -/
theorem Items.turn {kn kn' : Addr → Obj → Prop} (k1 : ∀ a o, kn a o → o.cls ≠ .type "list_iterator" → kn' a o) {its : List Addr} {l : List (Int × Addr)} (h : Items kn its l) : Items kn' its l := by
  induction h with
  | nil => exact .nil
  | cons a b d _ ih => exact .cons (k1 _ _ a (by intro h; exact absurd (Value.type.inj h) (by decide))) (k1 _ _ b (by rw [d]; intro h; exact absurd (Value.type.inj h) (by decide))) d ih
theorem RSt.turn {c : Ctx} {D : Ex → Obj} {kn kn' : Addr → Obj → Prop} (R : RSt c D kn) (k1 : ∀ a o, kn a o → o.cls ≠ .type "list_iterator" → kn' a o) : RSt c D kn' where
  imm e := k1 _ _ (R.imm e) (by cases e <;> (intro h; cases h))
  tR := k1 _ _ R.tR (by intro h; exact absurd (Value.type.inj h) (by decide))
  tS := k1 _ _ R.tS (by intro h; exact absurd (Value.type.inj h) (by decide))
  told e h := k1 _ _ (R.told e h) (by intro h; exact absurd (Value.type.inj h) (by decide))
  its e := (R.its e).turn k1
  ddne := R.ddne
  d0 := R.d0
  d1 := R.d1
theorem RSt.dR {c : Ctx} {D : Ex → Obj} {kn : Addr → Obj → Prop} (R : RSt c D kn) : ∃ es n, D .R = dictOf es n ∧ getL (Str.ofString "match_core") es = some none ∧ getL (Str.ofString "match") es = some none ∧ getL (Str.ofString "parse") es = some none := by
  by_cases h : c.old .R = []
  · exact ⟨[], 0, R.d0 _ h, rfl, rfl, rfl⟩
  · obtain ⟨hh, tk, nd, e⟩ := R.d1 _ h
    exact ⟨_, nd, e, by with_unfolding_all rfl, by with_unfolding_all rfl, by with_unfolding_all rfl⟩
/-- the ledger behind the reckoning of the reaches: two entries that turn later ahead, the rest out of sight -/
theorem after_reach {g h : Heap} {L : Addr} {a b c d r : Addr × Obj} {M : List (Addr × Obj)} {rows : List Value} {ps : List (Int × Int)} (N : News g L h (r :: M)) (sub : ∀ p ∈ [a, b, c, d], p ∈ M) (ne : ∀ p ∈ M, @Ne Nat p.1 r.1) (P : Pairs (Mem M) rows ps)
    (ta : a.2.cls ≠ .type "tuple") (tb : b.2.cls ≠ .type "tuple") (tc : c.2.cls ≠ .type "tuple") (td : d.2.cls ≠ .type "tuple") (ab : @Ne Nat a.1 b.1) (ac : @Ne Nat a.1 c.1) (ad : @Ne Nat a.1 d.1) (bc : @Ne Nat b.1 c.1) (cd : @Ne Nat c.1 d.1) :
    ∃ Z, News g L h (a :: c :: Z) ∧ (∀ q ∈ c :: Z, a.1 ≠ q.1) ∧ (∀ q ∈ Z, q.1 ≠ c.1) ∧ b ∈ Z ∧ d ∈ Z ∧ r ∈ Z ∧ Pairs (Mem Z) rows ps := by
  obtain ⟨M', dj, s1, s2⟩ := regroup (fun p hp => N p (.tail _ hp)) [a, b, c, d] sub
  refine ⟨b :: d :: r :: M', News.sub N ?_, ?_, ?_, .head _, .tail _ (.head _), .tail _ (.tail _ (.head _)), P.tup fun x its hx => ?_⟩
  · simp only [List.forall_mem_cons]
    exact ⟨.tail _ (sub _ (.head _)), .tail _ (sub _ (.tail _ (.tail _ (.head _)))), .tail _ (sub _ (.tail _ (.head _))), .tail _ (sub _ (.tail _ (.tail _ (.tail _ (.head _))))), .head _, fun p hp => .tail _ (s2 p hp)⟩
  · simp only [List.forall_mem_cons]
    exact ⟨ac, ab, ad, ne _ (sub _ (.head _)), fun q hq => dj _ (.head _) q hq⟩
  · simp only [List.forall_mem_cons]
    exact ⟨bc, fun e => cd e.symm, fun e => ne _ (sub _ (.tail _ (.tail _ (.head _)))) e.symm, fun q hq e => dj _ (.tail _ (.tail _ (.head _))) q hq e.symm⟩
  · have hx' := s1 _ hx
    rcases List.mem_append.mp hx' with h | h
    · simp only [List.mem_cons, List.not_mem_nil, or_false] at h
      rcases h with h | h | h | h
      · exact absurd (show a.2.cls = .type "tuple" from h ▸ rfl) ta
      · exact absurd (show b.2.cls = .type "tuple" from h ▸ rfl) tb
      · exact absurd (show c.2.cls = .type "tuple" from h ▸ rfl) tc
      · exact absurd (show d.2.cls = .type "tuple" from h ▸ rfl) td
    · exact .tail _ (.tail _ (.tail _ h))
section
variable {prog : Program} {w : World} {A : Around} {E : Value → Shared → Prop} {h₀ : Heap} {env : Env} {target : Expr} {body orelse : List Stmt} {Q : Flow → Shared → Prop}
/-- a for over a list, by induction; the names a, b, c may turn -/
theorem lst_ind {I ax : Addr} {G : Array GenState} {D : Drawn} {O : OsState} {a b c : Str} {m₀ : Str → Option Value} {vs : List Value} (J : Nat → List (Addr × Obj) → Prop)
    (turn : ∀ i v m nw h tk oi, vs[i]? = some v → (∀ y : Str, y ≠ a → y ≠ b → y ≠ c → m y = m₀ y) → J i nw → Fr h₀ env.locals h m → News h₀ env.locals h ((I, oi) :: nw) → ItL oi ax (i + 1) →
      wpAny (model prog w) A (assign target env v) (fun _ s₂ => wpAny (model prog w) A (execs body env) (fun f s₃ => match f with
        | .ret v => Q (.ret v) s₃
        | .brk => Q .next s₃
        | _ => Stop (∃ h' tk' m' news', s₃ = ⟨h', G, D, tk', O⟩ ∧ Fr h₀ env.locals h' m' ∧ News h₀ env.locals h' ((I, oi) :: news') ∧ (∀ p ∈ news', p.1 ≠ I) ∧ h'.IsList ax vs.toArray ∧ (∀ y : Str, y ≠ a → y ≠ b → y ≠ c → m' y = m₀ y) ∧ J (i + 1) news')) E s₂) E ⟨h, G, D, tk, O⟩)
    (done : ∀ m nw h tk, (∀ y : Str, y ≠ a → y ≠ b → y ≠ c → m y = m₀ y) → J vs.length nw → Fr h₀ env.locals h m → News h₀ env.locals h nw → wpAny (model prog w) A (execs orelse env) Q E ⟨h, G, D, tk, O⟩)
    {news : List (Addr × Obj)} (j0 : J 0 news) : LstTurns prog w A E h₀ env target body orelse Q I ax vs.toArray G D O vs 0 m₀ news := by
  have key : ∀ (r : List Value) (i : Nat) (m : Str → Option Value) (nw : List (Addr × Obj)), vs.drop i = r → i ≤ vs.length → (∀ y : Str, y ≠ a → y ≠ b → y ≠ c → m y = m₀ y) → J i nw → LstTurns prog w A E h₀ env target body orelse Q I ax vs.toArray G D O r i m nw := by
    intro r
    induction r with
    | nil =>
      intro i m nw hr hi hm hJ h tk F N
      have e : i = vs.length := by
        have := congrArg List.length hr
        rw [List.length_drop, List.length_nil] at this
        omega
      subst e
      exact done m nw h tk hm hJ F N
    | cons v r ih =>
      intro i m nw hr hi hm hJ h tk oi F N hit
      have hlt : i < vs.length := by
        have := congrArg List.length hr
        rw [List.length_drop, List.length_cons] at this
        omega
      have hv : vs[i]? = some v := by
        have := congrArg List.head? hr
        rw [List.head?_drop, List.head?_cons] at this
        exact this
      have hr' : vs.drop (i + 1) = r := by
        have := congrArg List.tail hr
        rw [List.tail_drop, List.tail_cons] at this
        exact this
      refine wpAny_mono (turn i v m nw h tk oi hv hm hJ F N hit) (fun _ s₂ h₂ => wpAny_mono h₂ (fun f s₃ h₃ => ?_) fun _ _ e => e) fun _ _ e => e
      cases f with
      | ret v => exact h₃
      | brk => exact h₃
      | next =>
        obtain ⟨⟨h', tk', m', news', e, F', N', ho, hl, hm', hJ'⟩⟩ := h₃
        exact ⟨⟨h', tk', m', news', e, F', N', ho, hl, ih (i + 1) m' news' hr' hlt hm' hJ'⟩⟩
      | cont =>
        obtain ⟨⟨h', tk', m', news', e, F', N', ho, hl, hm', hJ'⟩⟩ := h₃
        exact ⟨⟨h', tk', m', news', e, F', N', ho, hl, ih (i + 1) m' news' hr' hlt hm' hJ'⟩⟩
  exact key vs 0 m₀ news (by simp) (Nat.zero_le _) (fun _ _ _ _ => rfl) j0
end
end Mine
end
section
open PySem PySem.W PyProof.Rows PySem.Calls PySem.Spec PySem.Builtin PySem.Builtin.Str
set_option Elab.async false
set_option maxRecDepth 100000
set_option maxHeartbeats 1000000
namespace Mine
abbrev xs (k : Nat) : PySem.Str := Txt.mul (Str.ofString "x") (k : Int)
theorem x_one : PySem.Str.ofString "x" = ⟨#[120]⟩ := by decide +kernel
theorem xs_list (k : Nat) : (xs k).cps.toList = List.replicate k 120 := by
  unfold xs
  rw [x_one, mul_one_list]
  simp
theorem xs_len (k : Nat) : (xs k).length = k := by
  have := congrArg List.length (xs_list k)
  rw [List.length_replicate] at this
  simpa [Str.length] using this
theorem xs_starts (n k : Nat) (j : Int) (h0 : 0 ≤ j) (h1 : j ≤ n) : Txt.startswith3 (xs n) (xs k) j = decide (j + k ≤ n) := by
  obtain ⟨i, rfl⟩ := Int.eq_ofNat_of_zero_le h0
  have e : fromIndex n (i : Int) = i := by
    unfold fromIndex
    rw [if_neg (by omega)]
    omega
  unfold Txt.startswith3
  rw [xs_len, xs_len, e, PySem.StrLaws.subAt_eq, xs_list, xs_list, xs_len, List.drop_replicate, List.take_replicate]
  by_cases h : i + k ≤ n
  · have e2 : min k (n - i) = k := by omega
    rw [e2]
    have h3 : (i : Int) + (k : Int) ≤ (n : Int) := by omega
    simp [h, h3]
  · have h3 : ¬ ((i : Int) + (k : Int) ≤ (n : Int)) := by omega
    simp [h, h3]
theorem fine_of {c : Ctx} (hl : c.lit = xs) (p0 : 1 ≤ c.p) (p4 : c.p ≤ 4) (q0 : 1 ≤ c.q) (q4 : c.q ≤ 4) (r0 : 1 ≤ c.r) (r4 : c.r ≤ 4) (n16 : c.n ≤ 16) : c.Fine where
  len k := by rw [hl]; exact xs_len k
  starts k j a b := by rw [hl]; exact xs_starts _ _ _ a b
  p0 := p0
  p4 := p4
  q0 := q0
  q4 := q4
  r0 := r0
  r4 := r4
  n16 := n16
theorem one_cast (v : Nat) : (1 : Int) + (v : Int) = ((v + 1 : Nat) : Int) := by omega
theorem len_cast (v : Nat) : ((Txt.mul (Str.ofString "x") (v : Int)).length : Int) = (v : Int) := congrArg _ (xs_len v)
end Mine
end
section
open PySem PySem.W PyProof.Rows PySem.Calls PySem.Spec
set_option Elab.async false
set_option maxRecDepth 100000
set_option maxHeartbeats 4000000
namespace Mine
theorem name_text {h₀ h : Heap} {L : Addr} {m : Str → Option Value} {v : Str} {t : Tok} (_ : Fr h₀ L h (fun y => if y = Str.ofString "text" then some (.str v t) else m y)) : ∃ tt, tt = t := ⟨t, rfl⟩
theorem ne_of_cls {h₀ h : Heap} {L : Addr} {M : List (Addr × Obj)} (N : News h₀ L h M) {p q : Addr × Obj} (hp : p ∈ M) (hq : q ∈ M) (e : p.2.cls ≠ q.2.cls) : p.1 ≠ q.1 := fun h => by
  have h2 := (N _ hp).1
  rw [h, (N _ hq).1] at h2
  exact e (congrArg _ (Option.some.inj h2).symm)
def ruleC (R dR tR itR S dS tS itS P dP itP Qq dQ itQ T dT itT : Addr) (nR nS nP nQ nT lP lQ lT tt : Tok) (p q r n : Nat) : Ctx where
  ad e := match e with | .R => R | .S => S | .P => P | .Q => Qq | .T => T
  dd e := match e with | .R => dR | .S => dS | .P => dP | .Q => dQ | .T => dT
  it e := match e with | .R => itR | .S => itS | .P => itP | .Q => itQ | .T => itT
  tR := tR
  tS := tS
  nt e := match e with | .R => nR | .S => nS | .P => nP | .Q => nQ | .T => nT
  lt e := match e with | .Q => lQ | .T => lT | _ => lP
  p := p
  q := q
  r := r
  n := n
  lit := xs
  tt := tt
  cache := 0
  err := 0
  derr := 0
  at_ := 0
  told _ := 0
  its _ := []
  old _ := []
def D0 (_ : Ex) : Obj := dictOf [] 0
theorem chain_ge {R dR tR S dS tS P dP Lz dL Qq dQ T dT rm : Nat} (h1 : dP < P) (h2 : P < dL) (h3 : dL < Lz) (h4 : Lz < dQ) (h5 : dQ < Qq) (h6 : Qq < dS) (h7 : dS < S) (h8 : S < tS) (h9 : tS < dT) (h10 : dT < T) (h11 : T < dR) (h12 : dR < R) (h13 : R < tR) (h14 : tR < rm) :
    ∀ a ∈ [R, dR, tR, S, dS, tS, P, dP, Lz, dL, Qq, dQ, T, dT, rm], dP ≤ a := by
  simp only [List.forall_mem_cons, List.not_mem_nil, false_implies, implies_true, and_true]
  refine ⟨?_, ?_, ?_, ?_, ?_, ?_, ?_, ?_, ?_, ?_, ?_, ?_, ?_, ?_, ?_⟩ <;> omega
theorem chain_pw {R dR tR S dS tS P dP Lz dL Qq dQ T dT rm : Nat} (h1 : dP < P) (h2 : P < dL) (h3 : dL < Lz) (h4 : Lz < dQ) (h5 : dQ < Qq) (h6 : Qq < dS) (h7 : dS < S) (h8 : S < tS) (h9 : tS < dT) (h10 : dT < T) (h11 : T < dR) (h12 : dR < R) (h13 : R < tR) (h14 : tR < rm) :
    [R, dR, tR, S, dS, tS, P, dP, Lz, dL, Qq, dQ, T, dT, rm].Pairwise (fun a b => a ≠ b) := by
  simp only [List.pairwise_cons, List.forall_mem_cons, List.not_mem_nil, false_implies, implies_true, and_true, List.Pairwise.nil]
  repeat' (first | (refine And.intro ?_ ?_) | omega)
theorem of_map1 {l : List (Addr × Obj)} {f : Addr → Prop} (h : ∀ a ∈ l.map Prod.fst, f a) : ∀ p ∈ l, f p.1 := fun p hp => h _ (List.mem_map_of_mem hp)
theorem pw_map1 {l : List (Addr × Obj)} (h : (l.map Prod.fst).Pairwise (fun a b => a ≠ b)) : l.Pairwise (fun a b => a.1 ≠ b.1) := List.pairwise_map.mp h
theorem dd_ne {dR dS dP dQ dT : Nat} (h1 : dP < dQ) (h2 : dQ < dS) (h3 : dS < dT) (h4 : dT < dR) (e e' : Ex) : (match e with | .R => dR | .S => dS | .P => dP | .Q => dQ | .T => dT) = (match e' with | .R => dR | .S => dS | .P => dP | .Q => dQ | .T => dT) → e = e' := by
  cases e <;> cases e' <;> first | exact fun _ => rfl | (dsimp only; omega)
section
variable {R dR tR itR S dS tS itS P dP itP Lz dL Qq dQ itQ T dT itT rm sa : Addr} {nR nS nP nQ nT lP lQ lT tz : Tok} {oRM : Obj} {arr : Array Value} {cap : Nat} {p1 q1 r1 n1 : Nat} {Z : List (Addr × Obj)}
/-- the rule's resolve_refs, called by the law; what then stands -/
theorem law_rule {w : World} {A A₀ : Around} {env : Env} {outer : List Env} {base h₀ : Heap} {L : Addr} {m mg mb : Str → Option Value} {s : Shared} {pg : Program} {loose : List Str} {mean : ExcName → Option Value} {ps : Array Value} {Q E : Value → Shared → Prop} (tt : Tok)
    (bp : 1 ≤ p1 ∧ p1 ≤ 4) (bq : 1 ≤ q1 ∧ q1 ≤ 4) (br : 1 ≤ r1 ∧ r1 ≤ 4) (bn : n1 ≤ 16)
    (hA : A.handled = none) (hfr : A.frames = some (env :: outer)) (hL : env.frame = some L) (hk : env.scope.kind = .function) (hd' : A.depth + 55 < recursionLimit) (hu' : A.units + 20 * 55 < cLine)
    (B : Below A₀ base outer h₀) (F : Fr h₀ L s.heap m) (X : (hd.heap_39 w.params).In h₀) (T' : Top pg loose mean mg mb h₀) (ht : TriplesOk ps.toList) (hb : AllBare s.gens)
    (hdm : oRM.IsDictOf (strKind PySem.Challenge.rw_vj0018_01.row.prog w) [(Str.ofString "s", .ref R)])
    (N : News h₀ L s.heap ((rm, oRM) :: (R, oneObj dR tR itR (.str (Str.ofString "s") nR)) :: (dR, dictOf [] 0) :: (tR, tupObj #[.ref S, .ref T]) :: (T, litObj dT (.str (xs r1) lT) itT (.str (Str.ofString "") nT)) :: (dT, dictOf [] 0) ::
      (S, seqObj dS tS itS (.str (Str.ofString "") nS)) :: (dS, dictOf [] 0) :: (tS, tupObj #[.ref P, .ref Lz, .ref Qq]) :: (Qq, litObj dQ (.str (xs q1) lQ) itQ (.str (Str.ofString "") nQ)) :: (dQ, dictOf [] 0) ::
      (Lz, lazyObj 477 dL (Str.ofString "s") tz) :: (dL, dictOf [] 0) :: (P, litObj dP (.str (xs p1) lP) itP (.str (Str.ofString "") nP)) :: (dP, dictOf [] 0) :: (sa, listOf arr cap) :: (389, tabObj ps) :: Z))
    (nSa : ∀ q ∈ (389, tabObj ps) :: Z, sa ≠ q.1) (n389 : ∀ q ∈ Z, q.1 ≠ 389) (hZ : ∀ q ∈ (sa, listOf arr cap) :: (389, tabObj ps) :: Z, @LT.lt Nat _ q.1 dP)
    (h1 : @LT.lt Nat _ dP P) (h2 : @LT.lt Nat _ P dL) (h3 : @LT.lt Nat _ dL Lz) (h4 : @LT.lt Nat _ Lz dQ) (h5 : @LT.lt Nat _ dQ Qq) (h6 : @LT.lt Nat _ Qq dS) (h7 : @LT.lt Nat _ dS S) (h8 : @LT.lt Nat _ S tS) (h9 : @LT.lt Nat _ tS dT) (h10 : @LT.lt Nat _ dT T) (h11 : @LT.lt Nat _ T dR) (h12 : @LT.lt Nat _ dR R) (h13 : @LT.lt Nat _ R tR) (h14 : @LT.lt Nat _ tR rm)
    (ret : ∀ (c : Ctx) (h' : Heap) (gs : Array GenState) (tk : Nat) (ps' : Array Value) (W : List (Addr × Obj)), c.ad .R = R → c.text = .str (xs n1) tt → c.p = p1 → c.q = q1 → c.r = r1 → c.n = n1 → c.Fine → (∀ e, c.its e = []) → AllBare gs →
      Fr h₀ L h' m → News h₀ L h' ((sa, listOf arr cap) :: (389, tabObj ps') :: (Md c D0 ++ W)) → (∀ q ∈ (389, tabObj ps') :: (Md c D0 ++ W), sa ≠ q.1) → (∀ q ∈ Md c D0, q.1 ≠ 389) → (∀ p ∈ Md c D0, ∀ q ∈ W, p.1 ≠ q.1) →
      (∀ q ∈ Z, q ∈ W) → (c.ad .R, c.ob .R) ∈ W → RSt c D0 (Kn h₀ W) → Q (.ref R) ⟨h', gs, s.drawn, tk, s.os⟩) :
    wpAny (model PySem.Challenge.rw_vj0018_01.row.prog w) A (call (.ref 394) [.ref R, .ref rm]) Q E s := by
  have ge : ∀ q ∈ RSof R dR tR itR S dS tS itS T (.str (Str.ofString "s") nR) (.str (Str.ofString "") nS) #[.ref P, .ref Lz, .ref Qq] (MMof P dP itP Lz dL Qq dQ itQ T dT itT rm (.str (Str.ofString "") nP) (.str (Str.ofString "") nQ) (.str (Str.ofString "") nT) (.str (xs p1) lP) (.str (xs q1) lQ) (.str (xs r1) lT) tz oRM), @LE.le Nat _ dP q.1 :=
    of_map1 (chain_ge h1 h2 h3 h4 h5 h6 h7 h8 h9 h10 h11 h12 h13 h14)
  have l389 : @LT.lt Nat _ 389 dP := hZ _ (.tail _ (.head _))
  have lsa : @LT.lt Nat _ sa dP := hZ _ (.head _)
  have lZ : ∀ q ∈ Z, @LT.lt Nat _ q.1 dP := fun q hq => hZ q (.tail _ (.tail _ hq))
  refine resolve (itR := itR) (itS := itS) (itP := itP) (itQ := itQ) (itT := itT) (nR := .str (Str.ofString "s") nR) (nS := .str (Str.ofString "") nS) (nP := .str (Str.ofString "") nP) (nQ := .str (Str.ofString "") nQ) (nT := .str (Str.ofString "") nT) (lP := .str (xs p1) lP) (lQ := .str (xs q1) lQ) (lT := .str (xs r1) lT) (tz := tz) hdm (pw_map1 (chain_pw h1 h2 h3 h4 h5 h6 h7 h8 h9 h10 h11 h12 h13 h14)) hA hfr hL hk hd' hu' B F X T' ht hb (X := (sa, listOf arr cap) :: Z) (M := _) (ps := ps) ?N ?ne ?dj rfl (fun _ h => nomatch h) ?cont
  case N =>
    refine News.sub N ?_
    simp only [List.cons_append, List.forall_mem_cons, List.forall_mem_append]
    refine ⟨by k_mem, by k_mem, fun q hq => by repeat (first | exact hq | refine List.Mem.tail _ ?_), ?_⟩
    repeat' (first | (refine And.intro ?_ ?_) | k_mem | exact fun _ h => nomatch h)
  case ne =>
    simp only [List.cons_append, List.forall_mem_cons, List.forall_mem_append]
    refine ⟨nSa _ (.head _), n389, ?_⟩
    have := fun q hq => Nat.ne_of_gt (Nat.lt_of_lt_of_le l389 (ge q hq))
    simpa only [List.forall_mem_cons] using this
  case dj =>
    intro q hq z hz
    have h := ge z hz
    rcases List.mem_cons.mp hq with rfl | hq
    · exact Nat.ne_of_lt (Nat.lt_of_lt_of_le lsa h)
    · exact Nat.ne_of_lt (Nat.lt_of_lt_of_le (lZ q hq) h)
  case cont =>
    rintro h' gs tk ps' M' - hba' htp' F' N' ⟨tR', tS', rfl⟩ hnew
    have key := ret (ruleC R dR tR' itR S dS tS' itS P dP itP Qq dQ itQ T dT itT nR nS nP nQ nT lP lQ lT tt p1 q1 r1 n1) h' gs tk ps'
      ([(R, oneObj dR tR' itR (.str (Str.ofString "s") nR)), (tR', tupObj #[.ref S, .ref T]), (S, seqObj dS tS' itS (.str (Str.ofString "") nS)), (tS', tupObj #[.ref P, .ref R, .ref Qq]), (P, litObj dP (.str (xs p1) lP) itP (.str (Str.ofString "") nP)),
        (Qq, litObj dQ (.str (xs q1) lQ) itQ (.str (Str.ofString "") nQ)), (T, litObj dT (.str (xs r1) lT) itT (.str (Str.ofString "") nT))] ++ Z)
      rfl rfl rfl rfl rfl rfl (fine_of rfl bp.1 bp.2 bq.1 bq.2 br.1 br.2 bn) (fun _ => rfl) hba' F'
    have N2 : News h₀ L h' ((sa, listOf arr cap) :: (389, tabObj ps') :: ([(dR, dictOf [] 0), (dS, dictOf [] 0), (dP, dictOf [] 0), (dQ, dictOf [] 0), (dT, dictOf [] 0)] ++ ([(R, oneObj dR tR' itR (.str (Str.ofString "s") nR)), (tR', tupObj #[.ref S, .ref T]), (S, seqObj dS tS' itS (.str (Str.ofString "") nS)), (tS', tupObj #[.ref P, .ref R, .ref Qq]), (P, litObj dP (.str (xs p1) lP) itP (.str (Str.ofString "") nP)),
        (Qq, litObj dQ (.str (xs q1) lQ) itQ (.str (Str.ofString "") nQ)), (T, litObj dT (.str (xs r1) lT) itT (.str (Str.ofString "") nT))] ++ Z))) := by
      refine News.sub N' ?_
      simp only [List.cons_append, List.nil_append, List.forall_mem_cons]
      have tl : ∀ (l : List (Addr × Obj)) (z : List (Addr × Obj)) q, q ∈ l → q ∈ z ++ l := fun _ _ _ h => List.mem_append_right _ h
      refine ⟨.tail _ (.head _), .head _, ?_, ?_, ?_, ?_, ?_, ?_, ?_, ?_, ?_, ?_, ?_, ?_, fun q hq => .tail _ (.tail _ (List.mem_append_left _ hq))⟩
      all_goals (refine .tail _ (.tail _ (List.mem_append_right _ ?_)); k_mem)
    have lo : ∀ a ∈ [R, dR, tR, S, dS, tS, P, dP, Lz, dL, Qq, dQ, T, dT, rm], dP ≤ a := chain_ge h1 h2 h3 h4 h5 h6 h7 h8 h9 h10 h11 h12 h13 h14
    simp only [List.forall_mem_cons] at lo
    obtain ⟨gR, gdR, gtR, gS, gdS, gtS, gP, gdP, gLz, gdL, gQ, gdQ, gT, gdT, grm, _⟩ := lo
    have up : ∀ {a b : Nat}, a < dP → dP ≤ b → a ≠ b := fun u v => Nat.ne_of_lt (Nat.lt_of_lt_of_le u v)
    have tl : ∀ q ∈ Z, q ∈ (sa, listOf arr cap) :: (389, tabObj ps') :: ([(dR, dictOf [] 0), (dS, dictOf [] 0), (dP, dictOf [] 0), (dQ, dictOf [] 0), (dT, dictOf [] 0)] ++ ([(R, oneObj dR tR' itR (.str (Str.ofString "s") nR)), (tR', tupObj #[.ref S, .ref T]), (S, seqObj dS tS' itS (.str (Str.ofString "") nS)), (tS', tupObj #[.ref P, .ref R, .ref Qq]), (P, litObj dP (.str (xs p1) lP) itP (.str (Str.ofString "") nP)),
        (Qq, litObj dQ (.str (xs q1) lQ) itQ (.str (Str.ofString "") nQ)), (T, litObj dT (.str (xs r1) lT) itT (.str (Str.ofString "") nT))] ++ Z)) := fun q hq => .tail _ (.tail _ (List.mem_append_right _ (List.mem_append_right _ hq)))
    refine key N2 ?_ ?_ ?_ (fun q hq => List.mem_append_right _ hq) (.head _) ?_
    · show ∀ q ∈ (389, tabObj ps') :: ([(dR, dictOf [] 0), (dS, dictOf [] 0), (dP, dictOf [] 0), (dQ, dictOf [] 0), (dT, dictOf [] 0)] ++ ([_, _, _, _, _, _, _] ++ Z)), sa ≠ q.1
      simp only [List.cons_append, List.nil_append, List.forall_mem_cons]
      refine ⟨nSa _ (.head _), up lsa gdR, up lsa gdS, up lsa gdP, up lsa gdQ, up lsa gdT, up lsa gR, ?_, up lsa gS, ?_, up lsa gP, up lsa gQ, up lsa gT, fun q hq => nSa q (.tail _ hq)⟩
      · exact ne_of_cls (p := (sa, listOf arr cap)) (q := (tR', _)) N2 (.head _) (by k_mem) (by intro h; exact absurd (Value.type.inj h) (by decide))
      · exact ne_of_cls (p := (sa, listOf arr cap)) (q := (tS', _)) N2 (.head _) (by k_mem) (by intro h; exact absurd (Value.type.inj h) (by decide))
    · show ∀ q ∈ [(dR, dictOf [] 0), (dS, dictOf [] 0), (dP, dictOf [] 0), (dQ, dictOf [] 0), (dT, dictOf [] 0)], q.1 ≠ 389
      simp only [List.forall_mem_cons]
      exact ⟨(up l389 gdR).symm, (up l389 gdS).symm, (up l389 gdP).symm, (up l389 gdQ).symm, (up l389 gdT).symm, fun _ h => nomatch h⟩
    · intro x hx q hq
      have hxd : x.2.cls = .type "dict" ∧ @LE.le Nat _ dP x.1 := by
        replace hx : x ∈ [(dR, dictOf [] 0), (dS, dictOf [] 0), (dP, dictOf [] 0), (dQ, dictOf [] 0), (dT, dictOf [] 0)] := hx
        simp only [List.mem_cons, List.not_mem_nil, or_false] at hx
        rcases hx with rfl | rfl | rfl | rfl | rfl
        · exact ⟨rfl, gdR⟩
        · exact ⟨rfl, gdS⟩
        · exact ⟨rfl, gdP⟩
        · exact ⟨rfl, gdQ⟩
        · exact ⟨rfl, gdT⟩
      rcases List.mem_append.mp hq with h | h
      · refine ne_of_cls N2 (.tail _ (.tail _ (List.mem_append_left _ hx))) (.tail _ (.tail _ (List.mem_append_right _ (List.mem_append_left _ h)))) ?_
        rw [hxd.1]
        simp only [List.mem_cons, List.not_mem_nil, or_false] at h
        rcases h with rfl | rfl | rfl | rfl | rfl | rfl | rfl
        · intro h; cases h
        · intro h; exact absurd (Value.type.inj h) (by decide)
        · intro h; cases h
        · intro h; exact absurd (Value.type.inj h) (by decide)
        · intro h; cases h
        · intro h; cases h
        · intro h; cases h
      · exact (up (lZ q h) hxd.2).symm
    · refine ⟨fun e => ?_, .inr (.tail _ (.head _)), .inr (.tail _ (.tail _ (.tail _ (.head _)))), fun e h => absurd rfl h, fun e => .nil, fun e e' h => ?_, fun e _ => rfl, fun e h => absurd rfl h⟩
      · cases e
        · exact .inr (.head _)
        · exact .inr (.tail _ (.tail _ (.head _)))
        · exact .inr (.tail _ (.tail _ (.tail _ (.tail _ (.head _)))))
        · exact .inr (.tail _ (.tail _ (.tail _ (.tail _ (.tail _ (.head _))))))
        · exact .inr (.tail _ (.tail _ (.tail _ (.tail _ (.tail _ (.tail _ (.head _)))))))
      · have ch : dP < dQ ∧ dQ < dS ∧ dS < dT ∧ dT < dR := ⟨Nat.lt_trans h1 (Nat.lt_trans h2 (Nat.lt_trans h3 h4)), Nat.lt_trans h5 h6, Nat.lt_trans h7 (Nat.lt_trans h8 h9), Nat.lt_trans h10 h11⟩
        exact fun z => h (dd_ne ch.1 ch.2.1 ch.2.2.1 ch.2.2.2 e e' z)
end
end Mine
end
section
open PySem PySem.W PyProof.Rows PySem.Calls PySem.Spec
set_option Elab.async false
set_option maxRecDepth 100000
set_option maxHeartbeats 8000000
namespace Mine
theorem prime_due : (fun (_ : OpenLaw) (_ : Params → Frag) => True) PySem.Challenge.rw_vj0018_01 hd.heap_39 := by
  w_top off
  k_fill
  trivial
local macro_rules | `(tactic| k_room) => `(tactic| first
  | ((try simp only [depth_mark, depth_under_make, depth_under_kw, depth_in1, depth_deeper, depth_caller]); decide)
  | ((try simp only [depth_mark, depth_under_make, depth_under_kw, depth_in1, depth_deeper, depth_caller]); (try dsimp only [ktrTop]); (simp only [recursionLimit] at *); omega))
local macro_rules | `(tactic| k_units) => `(tactic| first
  | exact Nat.le_of_ble_eq_true rfl
  | (have hcL9 := cLine_is; (try simp only [units_in1, units_deeper, Around.mark_units, units_caller] at *); (try dsimp only [ktrTop] at *); omega))
local macro_rules | `(tactic| walk_at "call ref") => `(tactic| (k_here; ks_any; k_dflt (
   (refine' call_cls ?k1 ?k2 ?k3 ?k4 ?k5 ?k6 ?_; (case k1 => k_asm); (case k2 => k_asm); (case k3 => k_asm); (case k4 => k_is); (case k5 => k_is); (case k6 => k_is); intro x' d' h' F' N' l1 l2; (try k_lt l1); (try k_lt2 l2);
    (refine' ks_code_super ?k1 ?k2 ?k3 ?k4 ?k5 ?kA ?kF ?kK ?k6 ?k7 ?k8 ?k9 ?kB ?_ ?c1 ?c2 ?c3 ?c4; (case kA => exact rfl); (case kF => exact rfl); (case kK => exact rfl); (case k1 => k_asm); (case k2 => k_asm); (case k3 => k_asm); (case k4 => k_asm); (case k5 => k_asm); (case k6 => k_is); (case k7 => k_is); (case k8 => k_room); (case k9 => exact binds_K (by k_in) rfl (by k_is) rfl rfl rfl); (case kB => exact locs rfl); (case c1 => decide); (case c2 => exact rfl); (case c3 => exact rfl); (case c4 => exact rfl); intro g' L' h' FG' F' N' B' X' T' l1; (try k_lt l1); (try dsimp only); (try k_lift B'))))))
local macro_rules | `(tactic| k_inst) => `(tactic| first
  | (refine' InstAt.of_news ?N ?h1 ?h2; (case N => k_asm); (case h1 => k_mem); (case h2 => k_mem))
  | (refine' instB ?F ?h1 ?N ?h2; (case F => k_asm); (case h1 => assumption); (case N => k_asm); (case h2 => k_mem))
  | (refine' instBB ?F ?h1 ?h2; (case F => k_asm); (case h1 => assumption); (case h2 => assumption)))
local macro_rules | `(tactic| walk_at "call builtin:getattr") => `(tactic| (k_here; (with_reducible show wpAny _ _ (call (Value.builtin _) [Value.ref _, Value.str _ _, _]) _ _ _); k_dflt (first
  | (refine' ga3_own ?F ?X ?I ?g ?hh ?ha ?hn ?hl ?hv ?hm ?nm ?_; (case I => k_inst); (case F => k_asm); (case X => k_asm); (case g => k_is); (case hh => k_is); (case ha => k_is); (case hn => k_is); (case hl => k_get); (case hv => k_handed); (case hm => k_is); (case nm => decide); k_whole)
  | (refine' ga3_no ?F ?X ?N ?I ?hA ?g ?hh ?ha ?hl ?hm ?nm ?hc ?hcn ?cp ?ms ?_; (case I => k_inst); (case F => k_asm); (case X => k_asm); (case N => k_asm); (case hA => exact rfl); (case g => k_is); (case hh => k_is); (case ha => k_is); (case hl => k_get); (case hm => k_is); (case nm => decide); (case hc => k_is); (case hcn => decide +kernel); (case cp => decide +kernel); (case ms => decide +kernel); k_whole; intro h' tk' F' N'; (try k_sweep)))))
local macro_rules | `(tactic| walk_at "call builtin:len") => `(tactic| (k_here; (with_reducible show wpAny _ _ (call (Value.builtin "len") [Value.ref _]) _ _ _); k_dflt (refine' kda_len (knd := PySem.intKind _ _) ?N ?m ?d ?lo ?fit ?_; (case N => k_asm); (case m => k_mem); (case d => assumption); (case lo => assumption); (case fit => first | omega | (simp only [List.length_append, List.length_cons, List.length_nil]; omega)); k_whole)))
local macro_rules | `(tactic| walk_at "setItem ref int") => `(tactic| (k_here; k_dflt (refine' kda_set (knd := PySem.intKind _ _) ?F ?N ?U ?d (intKind_is _ _ _ _) ?z ?_; (case F => k_asm); (case N => k_asm); (case U => k_updF); (case d => assumption); (case z => (rw [sizeLine_eq]; first | omega | (simp only [List.length_append, List.length_cons, List.length_nil]; omega))); k_whole); intro h' o' F' N' hd'; (try dsimp only at N'); (try rw [stored_new (by assumption)] at hd'); (try k_sweep)))
local macro_rules | `(tactic| walk_at "compareOp In int ref") => `(tactic| (k_here; k_dflt (first
  | (refine' mp_in0 (knd := PySem.intKind _ _) ?N ?m ?d ?lo (intKind_is _ _ _ _) ?hl ?_; (case N => k_asm); (case m => k_mem); (case d => assumption); (case lo => assumption); (case hl => assumption); k_whole)
  | (refine' mp_in1 (knd := PySem.intKind _ _) ?N ?m ?d ?lo (intKind_is _ _ _ _) ?hl ?_; (case N => k_asm); (case m => k_mem); (case d => assumption); (case lo => assumption); (case hl => assumption); k_whole))))
local macro_rules | `(tactic| walk_at "subscriptTail") => `(tactic| (k_here; (with_reducible show wpAny _ _ (subscriptTail _ _ (Value.ref _) (Value.int _ _)) _ _ _); k_dflt (refine' kda_item (knd := PySem.intKind _ _) ?N ?m ?d (intKind_is _ _ _ _) ?hl ?_ ?hs ?hg; (case N => k_asm); (case m => k_mem); (case d => assumption); (case hl => assumption); (case hs => with_unfolding_all rfl); (case hg => (intro _; with_unfolding_all rfl)); k_whole)))
local macro_rules | `(tactic| walk_at "getMethod ref") => `(tactic| (k_here; (with_reducible show wpAny _ _ (getMethod (Value.ref _) (Str.ofString "get") _) _ _ _); k_dflt (refine' kdg_method (knd := PySem.intKind _ _) ?N ?m ?d ?_; (case N => k_asm); (case m => k_mem); (case d => assumption); k_whole)))
local macro_rules | `(tactic| walk_at "call builtin:dict.get") => `(tactic| (k_here; k_dflt (refine' kdg_get1 (knd := PySem.intKind _ _) ?N ?m ?d ?lo (intKind_is _ _ _ _) _ ?hl ?_; (case N => k_asm); (case m => k_mem); (case d => assumption); (case lo => assumption); (case hl => assumption); k_whole); (try dsimp only [Option.getD])))
local macro_rules | `(tactic| walk_at "getAttr ref") => `(tactic| (k_here; k_dflt (refine' exc_getK ?F ?X ?I ?ga ?gt ?hb ?hh ?ha ?hn ?hl ?hv ?_; (case I => (first | (refine' instE ?iN ?i1 ?i2; (case iN => k_asm); (case i1 => k_mem); (case i2 => k_mem)) | (refine' instEB ?iF ?i1 ?iN ?i2; (case iF => k_asm); (case i1 => assumption); (case iN => k_asm); (case i2 => k_mem)))); (case F => k_asm); (case X => k_asm); (case ga => k_is); (case gt => k_is); (case hb => k_is); (case hh => k_is); (case ha => k_is); (case hn => k_is); (case hl => k_get); (case hv => k_handed); k_whole)))
local macro_rules | `(tactic| walk_at "setAttr ref") => `(tactic| (k_here; k_dflt (first
  | (refine' exc_setK ?F ?X ?N ?I ?hd ?hs ?hc ?hp ?hdd ?ho ?ht ?hl ?e ?U ?hz ?_; (case I => (first | (refine' instE ?iN ?i1 ?i2; (case iN => k_asm); (case i1 => k_mem); (case i2 => k_mem)) | (refine' instEB ?iF ?i1 ?iN ?i2; (case iF => k_asm); (case i1 => assumption); (case iN => k_asm); (case i2 => k_mem)))); (case F => k_asm); (case X => k_asm); (case N => k_asm); (case hd => exact rfl); (case hs => k_is); (case hc => k_is); (case hp => first | exact pass87 _ | exact pass125 _); (case hdd => exact rfl); (case ho => k_is); (case ht => k_is); (case hl => k_get); (case e => k_put); (case U => k_upd); (case hz => exact Nat.le_of_ble_eq_true rfl); k_whole; intro h' F' N'; (try k_sweep))
  | (refine' exc_set0K ?F ?X ?N ?hs ?hc ?hp ?hdd ?ho ?ht ?U ?_; (case F => k_asm); (case X => k_asm); (case N => k_asm); (case U => (intro d'; k_upd)); (case hs => k_is); (case hc => k_is); (case hp => first | exact pass87 _ | exact pass125 _); (case hdd => exact rfl); (case ho => k_is); (case ht => k_is); k_whole; intro d' h' F' N' l1; (try k_lt l1); (try k_sweep)))))
local macro_rules | `(tactic| walk_at "call ref") => `(tactic| (k_here; k_dflt (refine' exc_callK ?F ?X ?N ?hC ?a ?b ?c ?d ?e ?f ?g ?hr ?_; (case F => k_asm); (case X => k_asm); (case N => k_asm); (case hC => k_is); (case a => decide +kernel); (case b => decide +kernel); (case c => decide +kernel); (case d => k_is); (case e => k_is); (case f => k_is); (case g => k_is); (case hr => exact Nat.le_of_ble_eq_true rfl); k_whole; intro x' t' h' F' N' l1 l2; (try k_lt l1); (try k_lt2 l2); (try k_sweep); k_enter)))
local macro_rules | `(tactic| walk_at "call builtin:getattr") => `(tactic| (k_here; (with_reducible show wpAny _ _ (call (Value.builtin _) [Value.none, Value.str _ _, _]) _ _ _); k_dflt (refine' ga3_noneK ?F ?N ?hA ?nm ?hm ?hz ?_; (case F => k_asm); (case N => k_asm); (case hA => exact rfl); (case nm => decide); (case hm => exact am_miss_of_fast (by kernel_rfl)); (case hz => (rw [sizeLine_eq]; decide)); k_whole; intro h' tk' F' N'; (try k_sweep))))
local macro_rules | `(tactic| walk_at "call builtin:getattr") => `(tactic| (k_here; (with_reducible show wpAny _ _ (call (Value.builtin _) [Value.ref _, Value.str (Str.ofString "name") _, _]) _ _ _); k_dflt (refine' ga_nameK ?F ?X ?N ?e ?d ?_; (case F => k_asm); (case X => k_asm); (case N => k_asm); (case e => assumption); (case d => (first | assumption | (repeat (first | assumption | refine List.Mem.tail _ ?_)))); k_whole; intro nm' tk')))
local macro_rules | `(tactic| walk_at "setAttr ref") => `(tactic| (k_here; (with_reducible show wpAny _ _ (setAttr (Value.ref _) (Str.ofString "expr") _) _ _ _); k_dflt (refine' er_set_expr ?F ?X ?N ?I ?hd ?U ?_; (case I => (first | (refine' instE ?iN ?i1 ?i2; (case iN => k_asm); (case i1 => k_mem); (case i2 => k_mem)) | (refine' instEB ?iF ?i1 ?iN ?i2; (case iF => k_asm); (case i1 => assumption); (case iN => k_asm); (case i2 => k_mem)))); (case F => k_asm); (case X => k_asm); (case N => k_asm); (case hd => exact rfl); (case U => k_upd); k_whole; intro h' F' N'; (try k_sweep))))
local macro_rules | `(tactic| walk_at "setAttr ref") => `(tactic| (k_here; (with_reducible show wpAny _ _ (setAttr (Value.ref _) (Str.ofString "pos") _) _ _ _); k_dflt (refine' er_set_pos ?F ?X ?N ?I ?hd ?U ?_; (case I => (first | (refine' instE ?iN ?i1 ?i2; (case iN => k_asm); (case i1 => k_mem); (case i2 => k_mem)) | (refine' instEB ?iF ?i1 ?iN ?i2; (case iF => k_asm); (case i1 => assumption); (case iN => k_asm); (case i2 => k_mem)))); (case F => k_asm); (case X => k_asm); (case N => k_asm); (case hd => exact rfl); (case U => k_upd); k_whole; intro h' F' N'; (try k_sweep))))
local macro_rules | `(tactic| k_all) => `(tactic| first | (refine ?_; assumption) | exact allLt_at (by assumption) | exact allLt_lt (by assumption) (ltN (by (try dsimp only); omega)))
local macro_rules | `(tactic| k_lt $h:ident) => `(tactic| (replace $h := allLt_of $h; (simp only [AllLt, and_true] at $h:ident); (repeat (refine And.elim ?_ $h; clear $h; intro _ $h))))
local macro_rules | `(tactic| walk_at "CompSrc") => `(tactic| (k_here; (refine Stop.go ?_)))
local macro_rules | `(tactic| walk_at "CompEnd") => `(tactic| (refine Stop.mk ?_))
theorem w_due {w : World} {dp un : Nat} {gd : Option (List Code)} {cn : Str} {sn : List (Str × NameKind)} {sg sc : Bool} {sm : List (Str × Const)} {a : Addr} {ccd : Value} {cl : List (Str × Addr)} {outer : List Env} {A₀ : Around} {base h₀ : Heap} {L : Addr} {m : Str → Option Value} {s : Shared}
  {p : Program} {loose : List Str} {mean : ExcName → Option Value} {mg mb : Str → Option Value} {Q E : Value → Shared → Prop}
  (B : Below A₀ base outer h₀) (F : Fr h₀ L s.heap m) (X : (hd.heap_39 w.params).In h₀) (T : Top p loose mean mg mb h₀)
  (hd : dp + 20 < recursionLimit) (hu : un + 160 < cLine)
  {p1 q1 d1 : Nat} {st1 re1 : Int} {t1 t2 t3 t4 t5 : Tok} {rest : List (Addr × Obj)} (hd1 : d1 ≤ 16)
  (N : News h₀ L s.heap rest)
  (ret : ∀ D ys ri h' tk', Fr h₀ L h' m → News h₀ L h' ((D, LCg.lst ys) :: ri) → (∀ p ∈ rest, p ∈ ri) → (∀ p ∈ ri, @Ne Nat p.1 D) → Pairs (Mem ri) ys ((List.range d1).map fun (k : Nat) => (st1 + (k : Int) * (p1 : Int), st1 + re1 - (k : Int) * (q1 : Int))) → Q (.ref D) ⟨h', s.gens, s.drawn, tk', s.os⟩)
  : wpAny (model PySem.Challenge.rw_vj0018_01.row.prog w) (ktrTop dp un gd cn ⟨.function, sn, sg, sc, sm⟩ L a ccd cl outer) (call (.ref 507) [.int st1 t1, .int re1 t2, .int (d1 : Int) t3, .int (p1 : Int) t4, .int (q1 : Int) t5]) Q E s := by
  k_steps
  refine Stop.mk ?_
  refine LCg.CompSrc.range (n := d1) (by rfl) (by k_asm) (by k_asm) (by assumption) (by exact small_one (by omega) (by omega) (by omega) (by omega)) (by exact rangeSize_nat _ _) (by rw [PySem.sizeLine_eq]; omega) ?_
  intro g'
  refine pairs_range (cells := [_, _, _, _]) (rest := rest) (fun k => st1 + k * (p1 : Int)) (fun k => st1 + re1 - k * (q1 : Int)) ?turn ?fin
  case turn =>
    intro k t I oI C oC D m₂ ys h tk ri E' hlo hhi hri hC hx F9 N9 off9 ne9
    simp only [List.cons_append, List.nil_append] at N9 off9
    k_steps
    refine Stop.mk ?_
    rename News _ _ _ _ => N10
    rename Fr _ _ _ _ => F10
    refine' LCg.CompEnd.intro F10 N10 _ ?sub ?off trivial ⟨_, _, _, rfl, rfl⟩
    case sub => ((simp only [List.forall_mem_cons]); (repeat' (first | (refine And.intro ?_ ?_) | k_mem)); (intro p hp; repeat (first | exact hp | refine List.Mem.tail _ ?_)))
    case off => ((simp only [LCg.Off3] at off9 ⊢); exact ⟨off9.1, off9.2.1, off9.2.2.1, off9.2.2.2.1, ⟨by k_ne, by k_ne, by k_ne⟩, off9.2.2.2.2⟩)
  case fin =>
    intro ys ri hri hp
    refine Stop.mk ?_
    k_steps
    rename News h₀ _ _ _ => N9
    rename Fr h₀ _ _ _ => F9
    rename LCg.Off1 _ _ => o1
    exact ret _ _ ri _ _ F9 (News.sub N9 (List.forall_mem_cons.mpr ⟨.head _, fun p hp => by repeat (first | exact hp | refine List.Mem.tail _ ?_)⟩)) hri (off1_mem o1.2.2.2.2) (by simpa using hp)
end Mine
end
section
open PySem PySem.W PyProof.Rows PySem.Calls PySem.Spec
set_option Elab.async false
set_option maxRecDepth 100000
set_option maxHeartbeats 4000000
namespace Mine
abbrev Ctx.at_turn (c : Ctx) (x : Addr × Addr × Addr × Addr) (f : Ex → Obj × Addr × List Addr × List (Int × Addr)) : Ctx := (c.begin x.1 x.2.1 x.2.2.1 x.2.2.2).later f
theorem fine_turn {c : Ctx} (F : c.Fine) {x : Addr × Addr × Addr × Addr} {f : Ex → Obj × Addr × List Addr × List (Int × Addr)} : (c.at_turn x f).Fine := ⟨F.len, F.starts, F.p0, F.p4, F.q0, F.q4, F.r0, F.r4, F.n16⟩
/-- what holds between the turns of the law's for -/
structure LawT (h₀ : Heap) (I : Addr) (c : Ctx) (K0 : List (Addr × Obj)) (i : Nat) (nw : List (Addr × Obj)) (x : Addr × Addr × Addr × Addr) (f : Ex → Obj × Addr × List Addr × List (Int × Addr)) (D : Ex → Obj) (rest : List (Addr × Obj)) (oi : Obj) : Prop where
  eq : nw = Md c D ++ rest
  rs : RSt (c.at_turn x f) D (Kn h₀ ((I, oi) :: rest))
  cls : oi.cls = .type "list_iterator"
  dj : ∀ p ∈ Md c D, ∀ q ∈ rest, p.1 ≠ q.1
  off : ∀ p ∈ nw, p.1 ≠ I
  sub : ∀ p ∈ K0, p ∈ rest
  len : ∀ e, (f e).2.2.1.length ≤ i
def LawJ (h₀ : Heap) (I : Addr) (c : Ctx) (K0 : List (Addr × Obj)) (i : Nat) (nw : List (Addr × Obj)) : Prop := ∃ x f D rest oi, LawT h₀ I c K0 i nw x f D rest oi
theorem LawJ.zero {h₀ : Heap} {I : Addr} {c : Ctx} {D : Ex → Obj} {K0 : List (Addr × Obj)} (R : RSt c D (Kn h₀ K0)) (its0 : ∀ e, c.its e = []) (dj : ∀ p ∈ Md c D, ∀ q ∈ K0, p.1 ≠ q.1) (hI : ∀ p ∈ Md c D ++ K0, p.1 < I) : LawJ h₀ I c K0 0 (Md c D ++ K0) :=
  ⟨(c.cache, c.err, c.derr, c.at_), (fun e => (D e, c.told e, c.its e, c.old e)), D, K0, { cls := .type "list_iterator", data := .plain }, ⟨rfl, R.mono fun _ _ k => k.mono fun p hp => .tail _ hp, rfl, dj, fun p hp => Nat.ne_of_lt (hI p hp), fun _ h => h, fun e => by
    show (c.its e).length ≤ 0
    rw [its0]
    exact Nat.le_refl _⟩⟩
theorem LawT.go {h₀ : Heap} {I : Addr} {c : Ctx} {K0 nw rest : List (Addr × Obj)} {i : Nat} {x : Addr × Addr × Addr × Addr} {f : Ex → Obj × Addr × List Addr × List (Int × Addr)} {D : Ex → Obj} {oi : Obj} (J : LawT h₀ I c K0 i nw x f D rest oi) {rest' : List (Addr × Obj)} (sub : ∀ p ∈ rest, p ∈ rest') :
    RSt (c.at_turn x f) D (Kn h₀ rest') := by
  refine J.rs.turn fun a o k hne => ?_
  rcases k with k | k
  · exact .inl k
  · rcases List.mem_cons.mp k with e | k
    · exact absurd (show o.cls = .type "list_iterator" from (congrArg (fun p : Addr × Obj => p.2.cls) e).trans J.cls) hne
    · exact .inr (sub _ k)
theorem LawT.dj2 {h₀ : Heap} {I : Addr} {c : Ctx} {K0 nw rest : List (Addr × Obj)} {i : Nat} {x : Addr × Addr × Addr × Addr} {f : Ex → Obj × Addr × List Addr × List (Int × Addr)} {D : Ex → Obj} {oi oi' : Obj} (J : LawT h₀ I c K0 i nw x f D rest oi) :
    ∀ p ∈ Md c D, ∀ q ∈ (I, oi') :: rest, p.1 ≠ q.1 := by
  intro p hp q hq
  rcases List.mem_cons.mp hq with rfl | hq
  · exact J.off p (J.eq ▸ List.mem_append_left _ hp)
  · exact J.dj p hp q hq
/-- a turn ends -/
theorem LawT.next {h₀ h : Heap} {L I : Addr} {c : Ctx} {K0 nw rest M rest' : List (Addr × Obj)} {i : Nat} {x x' : Addr × Addr × Addr × Addr} {f f' : Ex → Obj × Addr × List Addr × List (Int × Addr)} {D D' : Ex → Obj} {oi oi' : Obj} (J : LawT h₀ I c K0 i nw x f D rest oi)
    (hc : oi'.cls = .type "list_iterator") (hK : ∀ p ∈ K0, p.1 ≠ I) (N : News h₀ L h M) (hM : ∀ p ∈ Md c D' ++ rest', p ∈ M) (dj' : ∀ p ∈ Md c D', ∀ q ∈ rest', p.1 ≠ q.1) (sub' : ∀ p ∈ (I, oi') :: rest, p ∈ rest') (R' : RSt (c.at_turn x' f') D' (Kn h₀ rest'))
    (len' : ∀ e, (f' e).2.2.1.length ≤ ((c.at_turn x f).its e).length + 1) :
    ∃ nw', News h₀ L h ((I, oi') :: nw') ∧ (∀ p ∈ nw', p.1 ≠ I) ∧ (∀ p ∈ K0, p ∈ nw') ∧ LawJ h₀ I c K0 (i + 1) nw' := by
  have N' : News h₀ L h rest' := News.sub N fun p hp => hM p (List.mem_append_right _ hp)
  obtain ⟨M', d1, s1, s2⟩ := regroup N' [(I, oi')] (fun p hp => by
    rcases List.mem_cons.mp hp with rfl | hp
    · exact sub' _ (.head _)
    · cases hp)
  have offM : ∀ p ∈ M', p.1 ≠ I := fun p hp e => d1 _ (.head _) p hp e.symm
  have offD : ∀ p ∈ Md c D', p.1 ≠ I := fun p hp => dj' p hp _ (sub' _ (.head _))
  have K' : ∀ p ∈ K0, p ∈ M' := fun p hp => by
    rcases List.mem_append.mp (s1 _ (sub' _ (.tail _ (J.sub p hp)))) with h | h
    · rcases List.mem_cons.mp h with rfl | h
      · exact absurd rfl (hK _ hp)
      · cases h
    · exact h
  have off : ∀ p ∈ Md c D' ++ M', p.1 ≠ I := fun p hp => (List.mem_append.mp hp).elim (offD p) (offM p)
  refine ⟨Md c D' ++ M', ?_, off, fun p hp => List.mem_append_right _ (K' p hp), x', f', D', M', oi', rfl, ?_, hc, fun p hp q hq => dj' p hp q (s2 q hq), off, K', fun e => Nat.le_trans (len' e) (Nat.succ_le_succ (J.len e))⟩
  · refine News.sub N ?_
    intro p hp
    rcases List.mem_cons.mp hp with rfl | hp
    · exact hM _ (List.mem_append_right _ (sub' _ (.head _)))
    · rcases List.mem_append.mp hp with hp | hp
      · exact hM _ (List.mem_append_left _ hp)
      · exact hM _ (List.mem_append_right _ (s2 p hp))
  · exact R'.mono fun a o k => k.mono fun p hp => s1 p hp
theorem dj_front {c : Ctx} {D : Ex → Obj} {a b d : Addr × Obj} {W : List (Addr × Obj)} (h1 : ∀ p ∈ Md c D, p.1 ≠ a.1) (h2 : ∀ p ∈ Md c D, p.1 ≠ b.1) (h3 : ∀ p ∈ Md c D, p.1 ≠ d.1) (h4 : ∀ p ∈ Md c D, ∀ q ∈ W, p.1 ≠ q.1) : ∀ p ∈ Md c D, ∀ q ∈ a :: b :: d :: W, p.1 ≠ q.1 := by
  intro p hp
  simp only [List.forall_mem_cons]
  exact ⟨h1 p hp, h2 p hp, h3 p hp, h4 p hp⟩
theorem dup2' {h₀ h : Heap} {L : Addr} {x y : Addr × Obj} {M : List (Addr × Obj)} (N : News h₀ L h M) (hx : x ∈ M) (hy : y ∈ M) : News h₀ L h (x :: y :: M) := News.sub N (List.forall_mem_cons.mpr ⟨hx, List.forall_mem_cons.mpr ⟨hy, fun _ h => h⟩⟩)
theorem three_at {i : Nat} {v : Value} {n a b : Nat} {t1 t2 t3 : Tok} (h : [Value.int 0 t1, .int (a : Int) t2, .int (b : Int) t3][i]? = some v) (ha : a ≤ n) (hb : b ≤ n) : ∃ (k : Nat) (t : Tok), v = .int (k : Int) t ∧ k ≤ n := by
  match i, h with
  | 0, h => cases h; exact ⟨0, t1, rfl, Nat.zero_le _⟩
  | 1, h => cases h; exact ⟨a, t2, rfl, ha⟩
  | 2, h => cases h; exact ⟨b, t3, rfl, hb⟩
  | j + 3, h => cases h
theorem three_lt {i : Nat} {v a b c : Value} (h : [a, b, c][i]? = some v) : i < 3 := by
  match i, h with
  | 0, _ => decide
  | 1, _ => decide
  | 2, _ => decide
  | j + 3, h => cases h
theorem mv_iter {g h : Heap} {L : Addr} {a : Addr × Obj} {A W : List (Addr × Obj)} (N : News g L h (a :: (A ++ W))) : News g L h (A ++ (a :: W)) := News.sub N fun p hp => by
  rcases List.mem_append.mp hp with hp | hp
  · exact .tail _ (List.mem_append_left _ hp)
  · rcases List.mem_cons.mp hp with rfl | hp
    · exact .head _
    · exact .tail _ (List.mem_append_right _ hp)
theorem front_md {g h : Heap} {L : Addr} {a b d : Addr × Obj} {c : Ctx} {D : Ex → Obj} {W : List (Addr × Obj)} (N : News g L h (a :: b :: d :: (Md c D ++ W))) : News g L h (Md c D ++ (a :: b :: d :: W)) := News.sub N fun p hp => by
  rcases List.mem_append.mp hp with hp | hp
  · exact .tail _ (.tail _ (.tail _ (List.mem_append_left _ hp)))
  · simp only [List.mem_cons] at hp ⊢
    rcases hp with hp | hp | hp | hp
    · exact .inl hp
    · exact .inr (.inl hp)
    · exact .inr (.inr (.inl hp))
    · exact .inr (.inr (.inr (List.mem_append_right _ hp)))
/-- the state ahead of the for -/
theorem law_zero {g h : Heap} {L : Addr} {a b d : Addr × Obj} {c : Ctx} {W : List (Addr × Obj)} (N : News g L h (a :: b :: d :: (Md c D0 ++ W))) (RS : RSt c D0 (Kn g W)) (its0 : ∀ e, c.its e = []) (h1 : AllLt a.1 (Md c D0 ++ W)) (h2 : ∀ q ∈ d :: (Md c D0 ++ W), b.1 ≠ q.1) (h3 : ∀ q ∈ Md c D0, q.1 ≠ d.1)
    (h4 : ∀ p ∈ Md c D0, ∀ q ∈ W, p.1 ≠ q.1) : ∃ K0, a ∈ K0 ∧ d ∈ K0 ∧ (∀ p ∈ W, p ∈ K0) ∧ News g L h (Md c D0 ++ K0) ∧ ∀ I, (∀ p ∈ Md c D0 ++ K0, p.1 < I) → LawJ g I c K0 0 (Md c D0 ++ K0) :=
  ⟨a :: b :: d :: W, .head _, .tail _ (.tail _ (.head _)), fun p hp => .tail _ (.tail _ (.tail _ hp)), front_md N, fun I hI => LawJ.zero (RS.mono fun _ _ k => k.mono fun p hp => .tail _ (.tail _ (.tail _ hp))) its0
    (dj_front (fun p hp => Nat.ne_of_lt (allLt_in h1 p (List.mem_append_left _ hp))) (fun p hp e => h2 p (.tail _ (List.mem_append_left _ hp)) e.symm) h3 h4) hI⟩
end Mine
end
section
open PySem PySem.W PyProof.Rows PySem.Calls PySem.Spec
set_option Elab.async false
set_option maxRecDepth 100000
set_option maxHeartbeats 8000000
namespace Mine
theorem prime_next : (fun (_ : OpenLaw) (_ : Params → Frag) => True) PySem.Challenge.rw_vj0018_01 hd.heap_39 := by
  w_top off
  k_fill
  trivial
local macro_rules | `(tactic| k_room) => `(tactic| first
  | ((try simp only [depth_mark, depth_under_make, depth_under_kw, depth_in1, depth_deeper, depth_caller]); decide)
  | ((try simp only [depth_mark, depth_under_make, depth_under_kw, depth_in1, depth_deeper, depth_caller]); (try dsimp only [ktrTop]); (simp only [recursionLimit] at *); omega))
local macro_rules | `(tactic| k_units) => `(tactic| first
  | exact Nat.le_of_ble_eq_true rfl
  | (have hcL9 := cLine_is; (try simp only [units_in1, units_deeper, Around.mark_units, units_caller] at *); (try dsimp only [ktrTop] at *); omega))
local macro_rules | `(tactic| walk_at "call ref") => `(tactic| (k_here; ks_any; k_dflt (
   (refine' call_cls ?k1 ?k2 ?k3 ?k4 ?k5 ?k6 ?_; (case k1 => k_asm); (case k2 => k_asm); (case k3 => k_asm); (case k4 => k_is); (case k5 => k_is); (case k6 => k_is); intro x' d' h' F' N' l1 l2; (try k_lt l1); (try k_lt2 l2);
    (refine' ks_code_super ?k1 ?k2 ?k3 ?k4 ?k5 ?kA ?kF ?kK ?k6 ?k7 ?k8 ?k9 ?kB ?_ ?c1 ?c2 ?c3 ?c4; (case kA => exact rfl); (case kF => exact rfl); (case kK => exact rfl); (case k1 => k_asm); (case k2 => k_asm); (case k3 => k_asm); (case k4 => k_asm); (case k5 => k_asm); (case k6 => k_is); (case k7 => k_is); (case k8 => k_room); (case k9 => exact binds_K (by k_in) rfl (by k_is) rfl rfl rfl); (case kB => exact locs rfl); (case c1 => decide); (case c2 => exact rfl); (case c3 => exact rfl); (case c4 => exact rfl); intro g' L' h' FG' F' N' B' X' T' l1; (try k_lt l1); (try dsimp only); (try k_lift B'))))))
local macro_rules | `(tactic| k_inst) => `(tactic| first
  | (refine' InstAt.of_news ?N ?h1 ?h2; (case N => k_asm); (case h1 => k_mem); (case h2 => k_mem))
  | (refine' instB ?F ?h1 ?N ?h2; (case F => k_asm); (case h1 => assumption); (case N => k_asm); (case h2 => k_mem))
  | (refine' instBB ?F ?h1 ?h2; (case F => k_asm); (case h1 => assumption); (case h2 => assumption)))
local macro_rules | `(tactic| walk_at "call builtin:getattr") => `(tactic| (k_here; (with_reducible show wpAny _ _ (call (Value.builtin _) [Value.ref _, Value.str _ _, _]) _ _ _); k_dflt (first
  | (refine' ga3_own ?F ?X ?I ?g ?hh ?ha ?hn ?hl ?hv ?hm ?nm ?_; (case I => k_inst); (case F => k_asm); (case X => k_asm); (case g => k_is); (case hh => k_is); (case ha => k_is); (case hn => k_is); (case hl => k_get); (case hv => k_handed); (case hm => k_is); (case nm => decide); k_whole)
  | (refine' ga3_no ?F ?X ?N ?I ?hA ?g ?hh ?ha ?hl ?hm ?nm ?hc ?hcn ?cp ?ms ?_; (case I => k_inst); (case F => k_asm); (case X => k_asm); (case N => k_asm); (case hA => exact rfl); (case g => k_is); (case hh => k_is); (case ha => k_is); (case hl => k_get); (case hm => k_is); (case nm => decide); (case hc => k_is); (case hcn => decide +kernel); (case cp => decide +kernel); (case ms => decide +kernel); k_whole; intro h' tk' F' N'; (try k_sweep)))))
local macro_rules | `(tactic| walk_at "call builtin:len") => `(tactic| (k_here; (with_reducible show wpAny _ _ (call (Value.builtin "len") [Value.ref _]) _ _ _); k_dflt (refine' kda_len (knd := PySem.intKind _ _) ?N ?m ?d ?lo ?fit ?_; (case N => k_asm); (case m => k_mem); (case d => assumption); (case lo => assumption); (case fit => first | omega | (simp only [List.length_append, List.length_cons, List.length_nil]; omega)); k_whole)))
local macro_rules | `(tactic| walk_at "setItem ref int") => `(tactic| (k_here; k_dflt (refine' kda_set (knd := PySem.intKind _ _) ?F ?N ?U ?d (intKind_is _ _ _ _) ?z ?_; (case F => k_asm); (case N => k_asm); (case U => k_updF); (case d => assumption); (case z => (rw [sizeLine_eq]; first | omega | (simp only [List.length_append, List.length_cons, List.length_nil]; omega))); k_whole); intro h' o' F' N' hd'; (try dsimp only at N'); (try rw [stored_new (by assumption)] at hd'); (try k_sweep)))
local macro_rules | `(tactic| walk_at "compareOp In int ref") => `(tactic| (k_here; k_dflt (first
  | (refine' mp_in0 (knd := PySem.intKind _ _) ?N ?m ?d ?lo (intKind_is _ _ _ _) ?hl ?_; (case N => k_asm); (case m => k_mem); (case d => assumption); (case lo => assumption); (case hl => assumption); k_whole)
  | (refine' mp_in1 (knd := PySem.intKind _ _) ?N ?m ?d ?lo (intKind_is _ _ _ _) ?hl ?_; (case N => k_asm); (case m => k_mem); (case d => assumption); (case lo => assumption); (case hl => assumption); k_whole))))
local macro_rules | `(tactic| walk_at "subscriptTail") => `(tactic| (k_here; (with_reducible show wpAny _ _ (subscriptTail _ _ (Value.ref _) (Value.int _ _)) _ _ _); k_dflt (refine' kda_item (knd := PySem.intKind _ _) ?N ?m ?d (intKind_is _ _ _ _) ?hl ?_ ?hs ?hg; (case N => k_asm); (case m => k_mem); (case d => assumption); (case hl => assumption); (case hs => with_unfolding_all rfl); (case hg => (intro _; with_unfolding_all rfl)); k_whole)))
local macro_rules | `(tactic| walk_at "getMethod ref") => `(tactic| (k_here; (with_reducible show wpAny _ _ (getMethod (Value.ref _) (Str.ofString "get") _) _ _ _); k_dflt (refine' kdg_method (knd := PySem.intKind _ _) ?N ?m ?d ?_; (case N => k_asm); (case m => k_mem); (case d => assumption); k_whole)))
local macro_rules | `(tactic| walk_at "call builtin:dict.get") => `(tactic| (k_here; k_dflt (refine' kdg_get1 (knd := PySem.intKind _ _) ?N ?m ?d ?lo (intKind_is _ _ _ _) _ ?hl ?_; (case N => k_asm); (case m => k_mem); (case d => assumption); (case lo => assumption); (case hl => assumption); k_whole); (try dsimp only [Option.getD])))
local macro_rules | `(tactic| walk_at "getAttr ref") => `(tactic| (k_here; k_dflt (refine' exc_getK ?F ?X ?I ?ga ?gt ?hb ?hh ?ha ?hn ?hl ?hv ?_; (case I => (first | (refine' instE ?iN ?i1 ?i2; (case iN => k_asm); (case i1 => k_mem); (case i2 => k_mem)) | (refine' instEB ?iF ?i1 ?iN ?i2; (case iF => k_asm); (case i1 => assumption); (case iN => k_asm); (case i2 => k_mem)))); (case F => k_asm); (case X => k_asm); (case ga => k_is); (case gt => k_is); (case hb => k_is); (case hh => k_is); (case ha => k_is); (case hn => k_is); (case hl => k_get); (case hv => k_handed); k_whole)))
local macro_rules | `(tactic| walk_at "setAttr ref") => `(tactic| (k_here; k_dflt (first
  | (refine' exc_setK ?F ?X ?N ?I ?hd ?hs ?hc ?hp ?hdd ?ho ?ht ?hl ?e ?U ?hz ?_; (case I => (first | (refine' instE ?iN ?i1 ?i2; (case iN => k_asm); (case i1 => k_mem); (case i2 => k_mem)) | (refine' instEB ?iF ?i1 ?iN ?i2; (case iF => k_asm); (case i1 => assumption); (case iN => k_asm); (case i2 => k_mem)))); (case F => k_asm); (case X => k_asm); (case N => k_asm); (case hd => exact rfl); (case hs => k_is); (case hc => k_is); (case hp => first | exact pass87 _ | exact pass125 _); (case hdd => exact rfl); (case ho => k_is); (case ht => k_is); (case hl => k_get); (case e => k_put); (case U => k_upd); (case hz => exact Nat.le_of_ble_eq_true rfl); k_whole; intro h' F' N'; (try k_sweep))
  | (refine' exc_set0K ?F ?X ?N ?hs ?hc ?hp ?hdd ?ho ?ht ?U ?_; (case F => k_asm); (case X => k_asm); (case N => k_asm); (case U => (intro d'; k_upd)); (case hs => k_is); (case hc => k_is); (case hp => first | exact pass87 _ | exact pass125 _); (case hdd => exact rfl); (case ho => k_is); (case ht => k_is); k_whole; intro d' h' F' N' l1; (try k_lt l1); (try k_sweep)))))
local macro_rules | `(tactic| walk_at "call ref") => `(tactic| (k_here; k_dflt (refine' exc_callK ?F ?X ?N ?hC ?a ?b ?c ?d ?e ?f ?g ?hr ?_; (case F => k_asm); (case X => k_asm); (case N => k_asm); (case hC => k_is); (case a => decide +kernel); (case b => decide +kernel); (case c => decide +kernel); (case d => k_is); (case e => k_is); (case f => k_is); (case g => k_is); (case hr => exact Nat.le_of_ble_eq_true rfl); k_whole; intro x' t' h' F' N' l1 l2; (try k_lt l1); (try k_lt2 l2); (try k_sweep); k_enter)))
local macro_rules | `(tactic| walk_at "call builtin:getattr") => `(tactic| (k_here; (with_reducible show wpAny _ _ (call (Value.builtin _) [Value.none, Value.str _ _, _]) _ _ _); k_dflt (refine' ga3_noneK ?F ?N ?hA ?nm ?hm ?hz ?_; (case F => k_asm); (case N => k_asm); (case hA => exact rfl); (case nm => decide); (case hm => exact am_miss_of_fast (by kernel_rfl)); (case hz => (rw [sizeLine_eq]; decide)); k_whole; intro h' tk' F' N'; (try k_sweep))))
local macro_rules | `(tactic| walk_at "call builtin:getattr") => `(tactic| (k_here; (with_reducible show wpAny _ _ (call (Value.builtin _) [Value.ref _, Value.str (Str.ofString "name") _, _]) _ _ _); k_dflt (refine' ga_nameK ?F ?X ?N ?e ?d ?_; (case F => k_asm); (case X => k_asm); (case N => k_asm); (case e => assumption); (case d => (first | assumption | (repeat (first | assumption | refine List.Mem.tail _ ?_)))); k_whole; intro nm' tk')))
local macro_rules | `(tactic| walk_at "setAttr ref") => `(tactic| (k_here; (with_reducible show wpAny _ _ (setAttr (Value.ref _) (Str.ofString "expr") _) _ _ _); k_dflt (refine' er_set_expr ?F ?X ?N ?I ?hd ?U ?_; (case I => (first | (refine' instE ?iN ?i1 ?i2; (case iN => k_asm); (case i1 => k_mem); (case i2 => k_mem)) | (refine' instEB ?iF ?i1 ?iN ?i2; (case iF => k_asm); (case i1 => assumption); (case iN => k_asm); (case i2 => k_mem)))); (case F => k_asm); (case X => k_asm); (case N => k_asm); (case hd => exact rfl); (case U => k_upd); k_whole; intro h' F' N'; (try k_sweep))))
local macro_rules | `(tactic| walk_at "setAttr ref") => `(tactic| (k_here; (with_reducible show wpAny _ _ (setAttr (Value.ref _) (Str.ofString "pos") _) _ _ _); k_dflt (refine' er_set_pos ?F ?X ?N ?I ?hd ?U ?_; (case I => (first | (refine' instE ?iN ?i1 ?i2; (case iN => k_asm); (case i1 => k_mem); (case i2 => k_mem)) | (refine' instEB ?iF ?i1 ?iN ?i2; (case iF => k_asm); (case i1 => assumption); (case iN => k_asm); (case i2 => k_mem)))); (case F => k_asm); (case X => k_asm); (case N => k_asm); (case hd => exact rfl); (case U => k_upd); k_whole; intro h' F' N'; (try k_sweep))))
local macro_rules | `(tactic| k_all) => `(tactic| first | (refine ?_; assumption) | exact allLt_at (by assumption) | exact allLt_lt (by assumption) (ltN (by (try dsimp only); omega)))
local macro_rules | `(tactic| k_lt $h:ident) => `(tactic| (replace $h := allLt_of $h; (simp only [AllLt, and_true] at $h:ident); (repeat (refine And.elim ?_ $h; clear $h; intro _ $h))))
theorem w_next {w : World} {dp un : Nat} {gd : Option (List Code)} {cn : Str} {sn : List (Str × NameKind)} {sg sc : Bool} {sm : List (Str × Const)} {a : Addr} {ccd : Value} {cl : List (Str × Addr)} {outer : List Env} {A₀ : Around} {base h₀ : Heap} {L : Addr} {m : Str → Option Value} {s : Shared}
  {p : Program} {loose : List Str} {mean : ExcName → Option Value} {mg mb : Str → Option Value} {Q E : Value → Shared → Prop}
  (B : Below A₀ base outer h₀) (F : Fr h₀ L s.heap m) (X : (hd.heap_39 w.params).In h₀) (T : Top p loose mean mg mb h₀)
  (hd : dp + 20 < recursionLimit) (hu : un + 160 < cLine)
  {sa scr : Addr} {k lim : Int} {tk0 tl : Tok} {cap : Nat} {rest : List (Addr × Obj)} {vs : List Value} {ns : List Int} {cs : Nat}
  (hk : 0 ≤ k) (hlim : 0 < lim) (hi : IntsAre vs ns) (hsz : ns.length ≤ 100) (hsc : (scr, listOf vs.toArray cs) ∈ rest)
  (N : News h₀ L s.heap ((sa, listOf #[.ref scr, .int k tk0] cap) :: rest)) (dj : ∀ q ∈ rest, sa ≠ q.1)
  (ret : ∀ v tv tk2 cap2 h' tk', 0 ≤ v → v < lim → Fr h₀ L h' m → News h₀ L h' ((sa, listOf #[.ref scr, .int (k + 1) tk2] cap2) :: rest) → Q (.int v tv) ⟨h', s.gens, s.drawn, tk', s.os⟩)
  : wpAny (model PySem.Challenge.rw_vj0018_01.row.prog w) (ktrTop dp un gd cn ⟨.function, sn, sg, sc, sm⟩ L a ccd cl outer) (call (.ref 488) [.ref sa, .int lim tl]) Q E s := by
  refine wpAny_call ?_
  k_dflt (refine' code_defR (hid := [(sa, listOf #[.ref scr, .int k tk0] cap)]) (rest := rest) ?k1 ?k2 ?k3 ?k4 ?k5 ?kA ?kF ?kK ?k6 ?k7 ?k8 ?k9 ?kB ?dj ?_ ?c2 ?c3 ?c4 ?c5; (case kA => exact rfl); (case kF => exact rfl); (case kK => exact rfl); (case k1 => exact B); (case k2 => exact F); (case k3 => exact X); (case k4 => exact N); (case k5 => exact T); (case k6 => k_is); (case k7 => k_is); (case k8 => k_room); (case k9 => exact BindsTo.of_eq rfl); (case c5 => decide); (case kB => exact locs rfl); (case dj => exact List.forall_mem_cons.mpr ⟨dj, List.forall_mem_nil _⟩); (case c2 => exact rfl); (case c3 => exact rfl); (case c4 => exact rfl); k_whole; intro g' L' h' FG' F' N' R' LT' B' X' T' st'; (try dsimp only); (try k_fold))
  have hscg : g'.IsList scr vs.toArray := ⟨_, R' _ hsc, rfl, _, rfl⟩
  have N0 := N
  clear N B F T
  k_steps
  all_goals (rename News h₀ _ _ _ => N9; rename News g' _ _ _ => Ng; rename Fr h₀ _ _ _ => F9; rename Heap.StaysIn g' _ => st9)
  all_goals have J := leave_join (M := [(sa, listOf #[.ref scr, .int k tk0] cap)]) N0 R' st9 N9 Ng
  · exact ret _ _ _ _ _ _ (Int.le_refl _) hlim F9 J.1
  · exact ret _ _ _ _ _ _ (fmod_lo _ hlim) (fmod_hi _ hlim) F9 J.1
end Mine
end
section
open PySem PySem.W PyProof.Rows PySem.Calls PySem.Spec
set_option Elab.async false
set_option maxRecDepth 100000
set_option maxHeartbeats 8000000
namespace Mine
theorem prime_lit : (fun (_ : OpenLaw) (_ : Params → Frag) => True) PySem.Challenge.rw_vj0018_01 hd.heap_39 := by
  w_top off
  k_fill
  trivial
local macro_rules | `(tactic| k_room) => `(tactic| first
  | ((try simp only [depth_mark, depth_under_make, depth_under_kw, depth_in1, depth_deeper, depth_caller]); decide)
  | ((try simp only [depth_mark, depth_under_make, depth_under_kw, depth_in1, depth_deeper, depth_caller]); (try dsimp only [ktrTop]); (simp only [recursionLimit] at *); omega))
local macro_rules | `(tactic| k_units) => `(tactic| first
  | exact Nat.le_of_ble_eq_true rfl
  | (have hcL9 := cLine_is; (try simp only [units_in1, units_deeper, Around.mark_units, units_caller] at *); (try dsimp only [ktrTop] at *); omega))
local macro_rules | `(tactic| walk_at "call ref") => `(tactic| (k_here; ks_any; k_dflt (
   (refine' call_cls ?k1 ?k2 ?k3 ?k4 ?k5 ?k6 ?_; (case k1 => k_asm); (case k2 => k_asm); (case k3 => k_asm); (case k4 => k_is); (case k5 => k_is); (case k6 => k_is); intro x' d' h' F' N' l1 l2; (try k_lt l1); (try k_lt2 l2);
    (refine' ks_code_super ?k1 ?k2 ?k3 ?k4 ?k5 ?kA ?kF ?kK ?k6 ?k7 ?k8 ?k9 ?kB ?_ ?c1 ?c2 ?c3 ?c4; (case kA => exact rfl); (case kF => exact rfl); (case kK => exact rfl); (case k1 => k_asm); (case k2 => k_asm); (case k3 => k_asm); (case k4 => k_asm); (case k5 => k_asm); (case k6 => k_is); (case k7 => k_is); (case k8 => k_room); (case k9 => exact binds_K (by k_in) rfl (by k_is) rfl rfl rfl); (case kB => exact locs rfl); (case c1 => decide); (case c2 => exact rfl); (case c3 => exact rfl); (case c4 => exact rfl); intro g' L' h' FG' F' N' B' X' T' l1; (try k_lt l1); (try dsimp only); (try k_lift B'))))))
local macro_rules | `(tactic| k_inst) => `(tactic| first
  | (refine' InstAt.of_news ?N ?h1 ?h2; (case N => k_asm); (case h1 => k_mem); (case h2 => k_mem))
  | (refine' instB ?F ?h1 ?N ?h2; (case F => k_asm); (case h1 => assumption); (case N => k_asm); (case h2 => k_mem))
  | (refine' instBB ?F ?h1 ?h2; (case F => k_asm); (case h1 => assumption); (case h2 => assumption)))
local macro_rules | `(tactic| walk_at "call builtin:getattr") => `(tactic| (k_here; (with_reducible show wpAny _ _ (call (Value.builtin _) [Value.ref _, Value.str _ _, _]) _ _ _); k_dflt (first
  | (refine' ga3_own ?F ?X ?I ?g ?hh ?ha ?hn ?hl ?hv ?hm ?nm ?_; (case I => k_inst); (case F => k_asm); (case X => k_asm); (case g => k_is); (case hh => k_is); (case ha => k_is); (case hn => k_is); (case hl => k_get); (case hv => k_handed); (case hm => k_is); (case nm => decide); k_whole)
  | (refine' ga3_no ?F ?X ?N ?I ?hA ?g ?hh ?ha ?hl ?hm ?nm ?hc ?hcn ?cp ?ms ?_; (case I => k_inst); (case F => k_asm); (case X => k_asm); (case N => k_asm); (case hA => exact rfl); (case g => k_is); (case hh => k_is); (case ha => k_is); (case hl => k_get); (case hm => k_is); (case nm => decide); (case hc => k_is); (case hcn => decide +kernel); (case cp => decide +kernel); (case ms => decide +kernel); k_whole; intro h' tk' F' N'; (try k_sweep)))))
local macro_rules | `(tactic| walk_at "call builtin:len") => `(tactic| (k_here; (with_reducible show wpAny _ _ (call (Value.builtin "len") [Value.ref _]) _ _ _); k_dflt (refine' kda_len (knd := PySem.intKind _ _) ?N ?m ?d ?lo ?fit ?_; (case N => k_asm); (case m => k_mem); (case d => assumption); (case lo => assumption); (case fit => first | omega | (simp only [List.length_append, List.length_cons, List.length_nil]; omega)); k_whole)))
local macro_rules | `(tactic| walk_at "setItem ref int") => `(tactic| (k_here; k_dflt (refine' kda_set (knd := PySem.intKind _ _) ?F ?N ?U ?d (intKind_is _ _ _ _) ?z ?_; (case F => k_asm); (case N => k_asm); (case U => k_updF); (case d => assumption); (case z => (rw [sizeLine_eq]; first | omega | (simp only [List.length_append, List.length_cons, List.length_nil]; omega))); k_whole); intro h' o' F' N' hd'; (try dsimp only at N'); (try rw [stored_new (by assumption)] at hd'); (try k_sweep)))
local macro_rules | `(tactic| walk_at "compareOp In int ref") => `(tactic| (k_here; k_dflt (first
  | (refine' mp_in0 (knd := PySem.intKind _ _) ?N ?m ?d ?lo (intKind_is _ _ _ _) ?hl ?_; (case N => k_asm); (case m => k_mem); (case d => assumption); (case lo => assumption); (case hl => assumption); k_whole)
  | (refine' mp_in1 (knd := PySem.intKind _ _) ?N ?m ?d ?lo (intKind_is _ _ _ _) ?hl ?_; (case N => k_asm); (case m => k_mem); (case d => assumption); (case lo => assumption); (case hl => assumption); k_whole))))
local macro_rules | `(tactic| walk_at "subscriptTail") => `(tactic| (k_here; (with_reducible show wpAny _ _ (subscriptTail _ _ (Value.ref _) (Value.int _ _)) _ _ _); k_dflt (refine' kda_item (knd := PySem.intKind _ _) ?N ?m ?d (intKind_is _ _ _ _) ?hl ?_ ?hs ?hg; (case N => k_asm); (case m => k_mem); (case d => assumption); (case hl => assumption); (case hs => with_unfolding_all rfl); (case hg => (intro _; with_unfolding_all rfl)); k_whole)))
local macro_rules | `(tactic| walk_at "getMethod ref") => `(tactic| (k_here; (with_reducible show wpAny _ _ (getMethod (Value.ref _) (Str.ofString "get") _) _ _ _); k_dflt (refine' kdg_method (knd := PySem.intKind _ _) ?N ?m ?d ?_; (case N => k_asm); (case m => k_mem); (case d => assumption); k_whole)))
local macro_rules | `(tactic| walk_at "call builtin:dict.get") => `(tactic| (k_here; k_dflt (refine' kdg_get1 (knd := PySem.intKind _ _) ?N ?m ?d ?lo (intKind_is _ _ _ _) _ ?hl ?_; (case N => k_asm); (case m => k_mem); (case d => assumption); (case lo => assumption); (case hl => assumption); k_whole); (try dsimp only [Option.getD])))
local macro_rules | `(tactic| walk_at "getAttr ref") => `(tactic| (k_here; k_dflt (refine' exc_getK ?F ?X ?I ?ga ?gt ?hb ?hh ?ha ?hn ?hl ?hv ?_; (case I => (first | (refine' instE ?iN ?i1 ?i2; (case iN => k_asm); (case i1 => k_mem); (case i2 => k_mem)) | (refine' instEB ?iF ?i1 ?iN ?i2; (case iF => k_asm); (case i1 => assumption); (case iN => k_asm); (case i2 => k_mem)))); (case F => k_asm); (case X => k_asm); (case ga => k_is); (case gt => k_is); (case hb => k_is); (case hh => k_is); (case ha => k_is); (case hn => k_is); (case hl => k_get); (case hv => k_handed); k_whole)))
local macro_rules | `(tactic| walk_at "setAttr ref") => `(tactic| (k_here; k_dflt (first
  | (refine' exc_setK ?F ?X ?N ?I ?hd ?hs ?hc ?hp ?hdd ?ho ?ht ?hl ?e ?U ?hz ?_; (case I => (first | (refine' instE ?iN ?i1 ?i2; (case iN => k_asm); (case i1 => k_mem); (case i2 => k_mem)) | (refine' instEB ?iF ?i1 ?iN ?i2; (case iF => k_asm); (case i1 => assumption); (case iN => k_asm); (case i2 => k_mem)))); (case F => k_asm); (case X => k_asm); (case N => k_asm); (case hd => exact rfl); (case hs => k_is); (case hc => k_is); (case hp => first | exact pass87 _ | exact pass125 _); (case hdd => exact rfl); (case ho => k_is); (case ht => k_is); (case hl => k_get); (case e => k_put); (case U => k_upd); (case hz => exact Nat.le_of_ble_eq_true rfl); k_whole; intro h' F' N'; (try k_sweep))
  | (refine' exc_set0K ?F ?X ?N ?hs ?hc ?hp ?hdd ?ho ?ht ?U ?_; (case F => k_asm); (case X => k_asm); (case N => k_asm); (case U => (intro d'; k_upd)); (case hs => k_is); (case hc => k_is); (case hp => first | exact pass87 _ | exact pass125 _); (case hdd => exact rfl); (case ho => k_is); (case ht => k_is); k_whole; intro d' h' F' N' l1; (try k_lt l1); (try k_sweep)))))
local macro_rules | `(tactic| walk_at "call ref") => `(tactic| (k_here; k_dflt (refine' exc_callK ?F ?X ?N ?hC ?a ?b ?c ?d ?e ?f ?g ?hr ?_; (case F => k_asm); (case X => k_asm); (case N => k_asm); (case hC => k_is); (case a => decide +kernel); (case b => decide +kernel); (case c => decide +kernel); (case d => k_is); (case e => k_is); (case f => k_is); (case g => k_is); (case hr => exact Nat.le_of_ble_eq_true rfl); k_whole; intro x' t' h' F' N' l1 l2; (try k_lt l1); (try k_lt2 l2); (try k_sweep); k_enter)))
local macro_rules | `(tactic| walk_at "call builtin:getattr") => `(tactic| (k_here; (with_reducible show wpAny _ _ (call (Value.builtin _) [Value.none, Value.str _ _, _]) _ _ _); k_dflt (refine' ga3_noneK ?F ?N ?hA ?nm ?hm ?hz ?_; (case F => k_asm); (case N => k_asm); (case hA => exact rfl); (case nm => decide); (case hm => exact am_miss_of_fast (by kernel_rfl)); (case hz => (rw [sizeLine_eq]; decide)); k_whole; intro h' tk' F' N'; (try k_sweep))))
local macro_rules | `(tactic| walk_at "call builtin:getattr") => `(tactic| (k_here; (with_reducible show wpAny _ _ (call (Value.builtin _) [Value.ref _, Value.str (Str.ofString "name") _, _]) _ _ _); k_dflt (refine' ga_nameK ?F ?X ?N ?e ?d ?_; (case F => k_asm); (case X => k_asm); (case N => k_asm); (case e => assumption); (case d => (first | assumption | (repeat (first | assumption | refine List.Mem.tail _ ?_)))); k_whole; intro nm' tk')))
local macro_rules | `(tactic| walk_at "setAttr ref") => `(tactic| (k_here; (with_reducible show wpAny _ _ (setAttr (Value.ref _) (Str.ofString "expr") _) _ _ _); k_dflt (refine' er_set_expr ?F ?X ?N ?I ?hd ?U ?_; (case I => (first | (refine' instE ?iN ?i1 ?i2; (case iN => k_asm); (case i1 => k_mem); (case i2 => k_mem)) | (refine' instEB ?iF ?i1 ?iN ?i2; (case iF => k_asm); (case i1 => assumption); (case iN => k_asm); (case i2 => k_mem)))); (case F => k_asm); (case X => k_asm); (case N => k_asm); (case hd => exact rfl); (case U => k_upd); k_whole; intro h' F' N'; (try k_sweep))))
local macro_rules | `(tactic| walk_at "setAttr ref") => `(tactic| (k_here; (with_reducible show wpAny _ _ (setAttr (Value.ref _) (Str.ofString "pos") _) _ _ _); k_dflt (refine' er_set_pos ?F ?X ?N ?I ?hd ?U ?_; (case I => (first | (refine' instE ?iN ?i1 ?i2; (case iN => k_asm); (case i1 => k_mem); (case i2 => k_mem)) | (refine' instEB ?iF ?i1 ?iN ?i2; (case iF => k_asm); (case i1 => assumption); (case iN => k_asm); (case i2 => k_mem)))); (case F => k_asm); (case X => k_asm); (case N => k_asm); (case hd => exact rfl); (case U => k_upd); k_whole; intro h' F' N'; (try k_sweep))))
local macro_rules | `(tactic| k_all) => `(tactic| first | (refine ?_; assumption) | exact allLt_at (by assumption) | exact allLt_lt (by assumption) (ltN (by (try dsimp only); omega)))
local macro_rules | `(tactic| k_lt $h:ident) => `(tactic| (replace $h := allLt_of $h; (simp only [AllLt, and_true] at $h:ident); (repeat (refine And.elim ?_ $h; clear $h; intro _ $h))))
local macro_rules | `(tactic| walk_at "execs cons") => `(tactic| (k_here; (with_reducible refine toks_any ?_); intro tk))
local macro_rules | `(tactic| walk_at "execs nil") => `(tactic| (k_here; (with_reducible refine toks_any ?_); intro tk))
local macro_rules | `(tactic| k_all) => `(tactic| first | exact plain_at (by assumption) | exact plain_lt (by assumption) (by assumption) | exact allLt_lt2 (by assumption) (by assumption))
theorem make_lit {w : World} {dp un : Nat} {gd : Option (List Code)} {cn : Str} {sn : List (Str × NameKind)} {sg sc : Bool} {sm : List (Str × Const)} {a : Addr} {ccd : Value} {cl : List (Str × Addr)} {outer : List Env} {A₀ : Around} {base h₀ : Heap} {L : Addr} {m : Str → Option Value} {s : Shared}
  {p : Program} {loose : List Str} {mean : ExcName → Option Value} {mg mb : Str → Option Value} {Q E : Value → Shared → Prop}
  (B : Below A₀ base outer h₀) (F : Fr h₀ L s.heap m) (X : (hd.heap_39 w.params).In h₀) (T : Top p loose mean mg mb h₀)
  (hd : dp + 20 < recursionLimit) (hu : un + 160 < cLine)
  {lit : Str} {tl : Tok} {rest : List (Addr × Obj)} (N : News h₀ L s.heap rest)
  (ret : ∀ x d it tk1 h' tk', Fr h₀ L h' m → News h₀ L h' ((x, litObj d (.str lit tl) it (.str (Str.ofString "") tk1)) :: (d, dictOf [] 0) :: rest) → (∀ q ∈ rest, @LT.lt Nat _ q.1 d) → @LT.lt Nat _ d x → Q (.ref x) ⟨h', s.gens, s.drawn, tk', s.os⟩)
  : wpAny (model PySem.Challenge.rw_vj0018_01.row.prog w) (ktrTop dp un gd cn ⟨.function, sn, sg, sc, sm⟩ L a ccd cl outer) (call (.ref 367) [.str lit tl]) Q E s := by
  k_steps
  rename Fr h₀ _ _ _ => F9
  rename News h₀ _ _ _ => N9
  refine ret _ _ _ _ _ _ F9 (News.sub N9 (List.forall_mem_cons.mpr ⟨by k_mem, List.forall_mem_cons.mpr ⟨by k_mem, fun q hq => by repeat (first | exact hq | refine List.Mem.tail _ ?_)⟩⟩)) ?_ ?_ <;> assumption
end Mine
end
section
open PySem PySem.W PyProof.Rows PySem.Calls PySem.Spec
set_option Elab.async false
set_option maxRecDepth 100000
set_option maxHeartbeats 8000000
namespace Mine
theorem prime_cmp_seq : (fun (_ : OpenLaw) (_ : Params → Frag) => True) PySem.Challenge.rw_vj0018_01 hd.heap_39 := by
  w_top off
  k_fill
  trivial
local macro_rules | `(tactic| k_room) => `(tactic| first
  | ((try simp only [depth_mark, depth_under_make, depth_under_kw, depth_in1, depth_deeper, depth_caller]); decide)
  | ((try simp only [depth_mark, depth_under_make, depth_under_kw, depth_in1, depth_deeper, depth_caller]); (try dsimp only [ktrTop]); (simp only [recursionLimit] at *); omega))
local macro_rules | `(tactic| k_units) => `(tactic| first
  | exact Nat.le_of_ble_eq_true rfl
  | (have hcL9 := cLine_is; (try simp only [units_in1, units_deeper, Around.mark_units, units_caller] at *); (try dsimp only [ktrTop] at *); omega))
local macro_rules | `(tactic| walk_at "call ref") => `(tactic| (k_here; ks_any; k_dflt (
   (refine' call_cls ?k1 ?k2 ?k3 ?k4 ?k5 ?k6 ?_; (case k1 => k_asm); (case k2 => k_asm); (case k3 => k_asm); (case k4 => k_is); (case k5 => k_is); (case k6 => k_is); intro x' d' h' F' N' l1 l2; (try k_lt l1); (try k_lt2 l2);
    (refine' ks_code_super ?k1 ?k2 ?k3 ?k4 ?k5 ?kA ?kF ?kK ?k6 ?k7 ?k8 ?k9 ?kB ?_ ?c1 ?c2 ?c3 ?c4; (case kA => exact rfl); (case kF => exact rfl); (case kK => exact rfl); (case k1 => k_asm); (case k2 => k_asm); (case k3 => k_asm); (case k4 => k_asm); (case k5 => k_asm); (case k6 => k_is); (case k7 => k_is); (case k8 => k_room); (case k9 => exact binds_K (by k_in) rfl (by k_is) rfl rfl rfl); (case kB => exact locs rfl); (case c1 => decide); (case c2 => exact rfl); (case c3 => exact rfl); (case c4 => exact rfl); intro g' L' h' FG' F' N' B' X' T' l1; (try k_lt l1); (try dsimp only); (try k_lift B'))))))
local macro_rules | `(tactic| k_inst) => `(tactic| first
  | (refine' InstAt.of_news ?N ?h1 ?h2; (case N => k_asm); (case h1 => k_mem); (case h2 => k_mem))
  | (refine' instB ?F ?h1 ?N ?h2; (case F => k_asm); (case h1 => assumption); (case N => k_asm); (case h2 => k_mem))
  | (refine' instBB ?F ?h1 ?h2; (case F => k_asm); (case h1 => assumption); (case h2 => assumption)))
local macro_rules | `(tactic| walk_at "call builtin:getattr") => `(tactic| (k_here; (with_reducible show wpAny _ _ (call (Value.builtin _) [Value.ref _, Value.str _ _, _]) _ _ _); k_dflt (first
  | (refine' ga3_own ?F ?X ?I ?g ?hh ?ha ?hn ?hl ?hv ?hm ?nm ?_; (case I => k_inst); (case F => k_asm); (case X => k_asm); (case g => k_is); (case hh => k_is); (case ha => k_is); (case hn => k_is); (case hl => k_get); (case hv => k_handed); (case hm => k_is); (case nm => decide); k_whole)
  | (refine' ga3_no ?F ?X ?N ?I ?hA ?g ?hh ?ha ?hl ?hm ?nm ?hc ?hcn ?cp ?ms ?_; (case I => k_inst); (case F => k_asm); (case X => k_asm); (case N => k_asm); (case hA => exact rfl); (case g => k_is); (case hh => k_is); (case ha => k_is); (case hl => k_get); (case hm => k_is); (case nm => decide); (case hc => k_is); (case hcn => decide +kernel); (case cp => decide +kernel); (case ms => decide +kernel); k_whole; intro h' tk' F' N'; (try k_sweep)))))
local macro_rules | `(tactic| walk_at "call builtin:len") => `(tactic| (k_here; (with_reducible show wpAny _ _ (call (Value.builtin "len") [Value.ref _]) _ _ _); k_dflt (refine' kda_len (knd := PySem.intKind _ _) ?N ?m ?d ?lo ?fit ?_; (case N => k_asm); (case m => k_mem); (case d => assumption); (case lo => assumption); (case fit => first | omega | (simp only [List.length_append, List.length_cons, List.length_nil]; omega)); k_whole)))
local macro_rules | `(tactic| walk_at "setItem ref int") => `(tactic| (k_here; k_dflt (refine' kda_set (knd := PySem.intKind _ _) ?F ?N ?U ?d (intKind_is _ _ _ _) ?z ?_; (case F => k_asm); (case N => k_asm); (case U => k_updF); (case d => assumption); (case z => (rw [sizeLine_eq]; first | omega | (simp only [List.length_append, List.length_cons, List.length_nil]; omega))); k_whole); intro h' o' F' N' hd'; (try dsimp only at N'); (try rw [stored_new (by assumption)] at hd'); (try k_sweep)))
local macro_rules | `(tactic| walk_at "compareOp In int ref") => `(tactic| (k_here; k_dflt (first
  | (refine' mp_in0 (knd := PySem.intKind _ _) ?N ?m ?d ?lo (intKind_is _ _ _ _) ?hl ?_; (case N => k_asm); (case m => k_mem); (case d => assumption); (case lo => assumption); (case hl => assumption); k_whole)
  | (refine' mp_in1 (knd := PySem.intKind _ _) ?N ?m ?d ?lo (intKind_is _ _ _ _) ?hl ?_; (case N => k_asm); (case m => k_mem); (case d => assumption); (case lo => assumption); (case hl => assumption); k_whole))))
local macro_rules | `(tactic| walk_at "subscriptTail") => `(tactic| (k_here; (with_reducible show wpAny _ _ (subscriptTail _ _ (Value.ref _) (Value.int _ _)) _ _ _); k_dflt (refine' kda_item (knd := PySem.intKind _ _) ?N ?m ?d (intKind_is _ _ _ _) ?hl ?_ ?hs ?hg; (case N => k_asm); (case m => k_mem); (case d => assumption); (case hl => assumption); (case hs => with_unfolding_all rfl); (case hg => (intro _; with_unfolding_all rfl)); k_whole)))
local macro_rules | `(tactic| walk_at "getMethod ref") => `(tactic| (k_here; (with_reducible show wpAny _ _ (getMethod (Value.ref _) (Str.ofString "get") _) _ _ _); k_dflt (refine' kdg_method (knd := PySem.intKind _ _) ?N ?m ?d ?_; (case N => k_asm); (case m => k_mem); (case d => assumption); k_whole)))
local macro_rules | `(tactic| walk_at "call builtin:dict.get") => `(tactic| (k_here; k_dflt (refine' kdg_get1 (knd := PySem.intKind _ _) ?N ?m ?d ?lo (intKind_is _ _ _ _) _ ?hl ?_; (case N => k_asm); (case m => k_mem); (case d => assumption); (case lo => assumption); (case hl => assumption); k_whole); (try dsimp only [Option.getD])))
local macro_rules | `(tactic| walk_at "getAttr ref") => `(tactic| (k_here; k_dflt (refine' exc_getK ?F ?X ?I ?ga ?gt ?hb ?hh ?ha ?hn ?hl ?hv ?_; (case I => (first | (refine' instE ?iN ?i1 ?i2; (case iN => k_asm); (case i1 => k_mem); (case i2 => k_mem)) | (refine' instEB ?iF ?i1 ?iN ?i2; (case iF => k_asm); (case i1 => assumption); (case iN => k_asm); (case i2 => k_mem)))); (case F => k_asm); (case X => k_asm); (case ga => k_is); (case gt => k_is); (case hb => k_is); (case hh => k_is); (case ha => k_is); (case hn => k_is); (case hl => k_get); (case hv => k_handed); k_whole)))
local macro_rules | `(tactic| walk_at "setAttr ref") => `(tactic| (k_here; k_dflt (first
  | (refine' exc_setK ?F ?X ?N ?I ?hd ?hs ?hc ?hp ?hdd ?ho ?ht ?hl ?e ?U ?hz ?_; (case I => (first | (refine' instE ?iN ?i1 ?i2; (case iN => k_asm); (case i1 => k_mem); (case i2 => k_mem)) | (refine' instEB ?iF ?i1 ?iN ?i2; (case iF => k_asm); (case i1 => assumption); (case iN => k_asm); (case i2 => k_mem)))); (case F => k_asm); (case X => k_asm); (case N => k_asm); (case hd => exact rfl); (case hs => k_is); (case hc => k_is); (case hp => first | exact pass87 _ | exact pass125 _); (case hdd => exact rfl); (case ho => k_is); (case ht => k_is); (case hl => k_get); (case e => k_put); (case U => k_upd); (case hz => exact Nat.le_of_ble_eq_true rfl); k_whole; intro h' F' N'; (try k_sweep))
  | (refine' exc_set0K ?F ?X ?N ?hs ?hc ?hp ?hdd ?ho ?ht ?U ?_; (case F => k_asm); (case X => k_asm); (case N => k_asm); (case U => (intro d'; k_upd)); (case hs => k_is); (case hc => k_is); (case hp => first | exact pass87 _ | exact pass125 _); (case hdd => exact rfl); (case ho => k_is); (case ht => k_is); k_whole; intro d' h' F' N' l1; (try k_lt l1); (try k_sweep)))))
local macro_rules | `(tactic| walk_at "call ref") => `(tactic| (k_here; k_dflt (refine' exc_callK ?F ?X ?N ?hC ?a ?b ?c ?d ?e ?f ?g ?hr ?_; (case F => k_asm); (case X => k_asm); (case N => k_asm); (case hC => k_is); (case a => decide +kernel); (case b => decide +kernel); (case c => decide +kernel); (case d => k_is); (case e => k_is); (case f => k_is); (case g => k_is); (case hr => exact Nat.le_of_ble_eq_true rfl); k_whole; intro x' t' h' F' N' l1 l2; (try k_lt l1); (try k_lt2 l2); (try k_sweep); k_enter)))
local macro_rules | `(tactic| walk_at "call builtin:getattr") => `(tactic| (k_here; (with_reducible show wpAny _ _ (call (Value.builtin _) [Value.none, Value.str _ _, _]) _ _ _); k_dflt (refine' ga3_noneK ?F ?N ?hA ?nm ?hm ?hz ?_; (case F => k_asm); (case N => k_asm); (case hA => exact rfl); (case nm => decide); (case hm => exact am_miss_of_fast (by kernel_rfl)); (case hz => (rw [sizeLine_eq]; decide)); k_whole; intro h' tk' F' N'; (try k_sweep))))
local macro_rules | `(tactic| walk_at "call builtin:getattr") => `(tactic| (k_here; (with_reducible show wpAny _ _ (call (Value.builtin _) [Value.ref _, Value.str (Str.ofString "name") _, _]) _ _ _); k_dflt (refine' ga_nameK ?F ?X ?N ?e ?d ?_; (case F => k_asm); (case X => k_asm); (case N => k_asm); (case e => assumption); (case d => (first | assumption | (repeat (first | assumption | refine List.Mem.tail _ ?_)))); k_whole; intro nm' tk')))
local macro_rules | `(tactic| walk_at "setAttr ref") => `(tactic| (k_here; (with_reducible show wpAny _ _ (setAttr (Value.ref _) (Str.ofString "expr") _) _ _ _); k_dflt (refine' er_set_expr ?F ?X ?N ?I ?hd ?U ?_; (case I => (first | (refine' instE ?iN ?i1 ?i2; (case iN => k_asm); (case i1 => k_mem); (case i2 => k_mem)) | (refine' instEB ?iF ?i1 ?iN ?i2; (case iF => k_asm); (case i1 => assumption); (case iN => k_asm); (case i2 => k_mem)))); (case F => k_asm); (case X => k_asm); (case N => k_asm); (case hd => exact rfl); (case U => k_upd); k_whole; intro h' F' N'; (try k_sweep))))
local macro_rules | `(tactic| walk_at "setAttr ref") => `(tactic| (k_here; (with_reducible show wpAny _ _ (setAttr (Value.ref _) (Str.ofString "pos") _) _ _ _); k_dflt (refine' er_set_pos ?F ?X ?N ?I ?hd ?U ?_; (case I => (first | (refine' instE ?iN ?i1 ?i2; (case iN => k_asm); (case i1 => k_mem); (case i2 => k_mem)) | (refine' instEB ?iF ?i1 ?iN ?i2; (case iF => k_asm); (case i1 => assumption); (case iN => k_asm); (case i2 => k_mem)))); (case F => k_asm); (case X => k_asm); (case N => k_asm); (case hd => exact rfl); (case U => k_upd); k_whole; intro h' F' N'; (try k_sweep))))
local macro_rules | `(tactic| k_all) => `(tactic| first | (refine ?_; assumption) | exact allLt_at (by assumption) | exact allLt_lt (by assumption) (ltN (by (try dsimp only); omega)))
local macro_rules | `(tactic| k_lt $h:ident) => `(tactic| (replace $h := allLt_of $h; (simp only [AllLt, and_true] at $h:ident); (repeat (refine And.elim ?_ $h; clear $h; intro _ $h))))
local macro_rules | `(tactic| walk_at "execs cons") => `(tactic| (k_here; (with_reducible refine toks_any ?_); intro tk))
local macro_rules | `(tactic| walk_at "execs nil") => `(tactic| (k_here; (with_reducible refine toks_any ?_); intro tk))
local macro_rules | `(tactic| k_all) => `(tactic| first | exact plain_at (by assumption) | exact plain_lt (by assumption) (by assumption) | exact allLt_lt2 (by assumption) (by assumption))
local macro_rules | `(tactic| walk_at "call ref") => `(tactic| (k_here; ks_any; k_dflt (
   (refine' call_cls ?k1 ?k2 ?k3 ?k4 ?k5 ?k6 ?_; (case k1 => k_asm); (case k2 => k_asm); (case k3 => k_asm); (case k4 => k_is); (case k5 => k_is); (case k6 => k_is); intro x' d' h' F' N' l1 l2; (try k_lt l1); (try k_lt2 l2);
    (refine' both_super ?k1 ?k2 ?k3 ?k4 ?k5 ?kA ?kF ?kK ?k6 ?k7 ?k8 ?kV ?kX ?kQ ?kM ?kN ?kD ?kR ?kP ?kS ?kT ?kB ?_ ?c1 ?c2 ?c3 ?c4; (case kA => exact rfl); (case kF => exact rfl); (case kK => exact rfl); (case k1 => k_asm); (case k2 => k_asm); (case k3 => k_asm); (case k4 => k_asm); (case k5 => k_asm); (case k6 => k_is); (case k7 => k_is); (case k8 => k_room); (case kV => kp_lit); (case kX => kp_lit); (case kQ => exact rfl); (case kM => exact rfl); (case kN => exact rfl); (case kD => kp_flats); (case kR => exact rfl); (case kP => exact rfl); (case kS => exact fun _ => rfl); (case kT => exact fun _ _ => rfl); (case kB => exact fun _ _ => locs rfl); (case c1 => exact rfl); (case c2 => exact rfl); (case c3 => exact rfl); (case c4 => decide); intro C' D' o' g' L' h' tk' l1 l2 lo' hs' fs' FG' F' N' B' X' T'; (try k_lt l1); (try k_lt2 l2); (try dsimp only); (try k_lift B'))))))
theorem make_seq {w : World} {dp un : Nat} {gd : Option (List Code)} {cn : Str} {sn : List (Str × NameKind)} {sg sc : Bool} {sm : List (Str × Const)} {a : Addr} {ccd : Value} {cl : List (Str × Addr)} {outer : List Env} {A₀ : Around} {base h₀ : Heap} {L : Addr} {m : Str → Option Value} {s : Shared}
  {p : Program} {loose : List Str} {mean : ExcName → Option Value} {mg mb : Str → Option Value} {Q E : Value → Shared → Prop}
  (B : Below A₀ base outer h₀) (F : Fr h₀ L s.heap m) (X : (hd.heap_39 w.params).In h₀) (T : Top p loose mean mg mb h₀)
  (hd : dp + 20 < recursionLimit) (hu : un + 160 < cLine)
  {x y z : Addr} {rest : List (Addr × Obj)} (N : News h₀ L s.heap rest)
  (ret : ∀ x' d tm it tk1 h' tk', Fr h₀ L h' m → News h₀ L h' ((x', seqObj d tm it (.str (Str.ofString "") tk1)) :: (d, dictOf [] 0) :: (tm, tupObj #[.ref x, .ref y, .ref z]) :: rest) → (∀ q ∈ rest, @LT.lt Nat _ q.1 d) → @LT.lt Nat _ d x' → @LT.lt Nat _ x' tm → Q (.ref x') ⟨h', s.gens, s.drawn, tk', s.os⟩)
  : wpAny (model PySem.Challenge.rw_vj0018_01.row.prog w) (ktrTop dp un gd cn ⟨.function, sn, sg, sc, sm⟩ L a ccd cl outer) (call (.ref 425) [.ref x, .ref y, .ref z]) Q E s := by
  k_steps
  rename Fr h₀ _ _ _ => F9
  rename News h₀ _ _ _ => N9
  refine ret _ _ _ _ _ _ _ F9 (News.sub N9 (List.forall_mem_cons.mpr ⟨by k_mem, List.forall_mem_cons.mpr ⟨by k_mem, List.forall_mem_cons.mpr ⟨by k_mem, fun q hq => by repeat (first | exact hq | refine List.Mem.tail _ ?_)⟩⟩⟩)) ?_ ?_ ?_ <;> assumption
end Mine
end
section
open PySem PySem.W PyProof.Rows PySem.Calls PySem.Spec
set_option Elab.async false
set_option maxRecDepth 100000
set_option maxHeartbeats 8000000
namespace Mine
theorem prime_cmp_one : (fun (_ : OpenLaw) (_ : Params → Frag) => True) PySem.Challenge.rw_vj0018_01 hd.heap_39 := by
  w_top off
  k_fill
  trivial
local macro_rules | `(tactic| walk_at "no such step") => `(tactic| fail "no such step")
local macro_rules | `(tactic| k_room) => `(tactic| first
  | ((try simp only [depth_mark, depth_under_make, depth_under_kw, depth_in1, depth_deeper, depth_caller]); decide)
  | ((try simp only [depth_mark, depth_under_make, depth_under_kw, depth_in1, depth_deeper, depth_caller]); (try dsimp only [ktrTop]); (simp only [recursionLimit] at *); omega))
local macro_rules | `(tactic| k_units) => `(tactic| first
  | exact Nat.le_of_ble_eq_true rfl
  | (have hcL9 := cLine_is; (try simp only [units_in1, units_deeper, Around.mark_units, units_caller] at *); (try dsimp only [ktrTop] at *); omega))
local macro_rules | `(tactic| walk_at "call ref") => `(tactic| (k_here; ks_any; k_dflt (
   (refine' call_cls ?k1 ?k2 ?k3 ?k4 ?k5 ?k6 ?_; (case k1 => k_asm); (case k2 => k_asm); (case k3 => k_asm); (case k4 => k_is); (case k5 => k_is); (case k6 => k_is); intro x' d' h' F' N' l1 l2; (try k_lt l1); (try k_lt2 l2);
    (refine' ks_code_super ?k1 ?k2 ?k3 ?k4 ?k5 ?kA ?kF ?kK ?k6 ?k7 ?k8 ?k9 ?kB ?_ ?c1 ?c2 ?c3 ?c4; (case kA => exact rfl); (case kF => exact rfl); (case kK => exact rfl); (case k1 => k_asm); (case k2 => k_asm); (case k3 => k_asm); (case k4 => k_asm); (case k5 => k_asm); (case k6 => k_is); (case k7 => k_is); (case k8 => k_room); (case k9 => exact binds_K (by k_in) rfl (by k_is) rfl rfl rfl); (case kB => exact locs rfl); (case c1 => decide); (case c2 => exact rfl); (case c3 => exact rfl); (case c4 => exact rfl); intro g' L' h' FG' F' N' B' X' T' l1; (try k_lt l1); (try dsimp only); (try k_lift B'))))))
local macro_rules | `(tactic| k_inst) => `(tactic| first
  | (refine' InstAt.of_news ?N ?h1 ?h2; (case N => k_asm); (case h1 => k_mem); (case h2 => k_mem))
  | (refine' instB ?F ?h1 ?N ?h2; (case F => k_asm); (case h1 => assumption); (case N => k_asm); (case h2 => k_mem))
  | (refine' instBB ?F ?h1 ?h2; (case F => k_asm); (case h1 => assumption); (case h2 => assumption)))
local macro_rules | `(tactic| walk_at "call builtin:getattr") => `(tactic| (k_here; (with_reducible show wpAny _ _ (call (Value.builtin _) [Value.ref _, Value.str _ _, _]) _ _ _); k_dflt (first
  | (refine' ga3_own ?F ?X ?I ?g ?hh ?ha ?hn ?hl ?hv ?hm ?nm ?_; (case I => k_inst); (case F => k_asm); (case X => k_asm); (case g => k_is); (case hh => k_is); (case ha => k_is); (case hn => k_is); (case hl => k_get); (case hv => k_handed); (case hm => k_is); (case nm => decide); k_whole)
  | (refine' ga3_no ?F ?X ?N ?I ?hA ?g ?hh ?ha ?hl ?hm ?nm ?hc ?hcn ?cp ?ms ?_; (case I => k_inst); (case F => k_asm); (case X => k_asm); (case N => k_asm); (case hA => exact rfl); (case g => k_is); (case hh => k_is); (case ha => k_is); (case hl => k_get); (case hm => k_is); (case nm => decide); (case hc => k_is); (case hcn => decide +kernel); (case cp => decide +kernel); (case ms => decide +kernel); k_whole; intro h' tk' F' N'; (try k_sweep)))))
local macro_rules | `(tactic| walk_at "call builtin:len") => `(tactic| (k_here; (with_reducible show wpAny _ _ (call (Value.builtin "len") [Value.ref _]) _ _ _); k_dflt (refine' kda_len (knd := PySem.intKind _ _) ?N ?m ?d ?lo ?fit ?_; (case N => k_asm); (case m => k_mem); (case d => assumption); (case lo => assumption); (case fit => first | omega | (simp only [List.length_append, List.length_cons, List.length_nil]; omega)); k_whole)))
local macro_rules | `(tactic| walk_at "setItem ref int") => `(tactic| (k_here; k_dflt (refine' kda_set (knd := PySem.intKind _ _) ?F ?N ?U ?d (intKind_is _ _ _ _) ?z ?_; (case F => k_asm); (case N => k_asm); (case U => k_updF); (case d => assumption); (case z => (rw [sizeLine_eq]; first | omega | (simp only [List.length_append, List.length_cons, List.length_nil]; omega))); k_whole); intro h' o' F' N' hd'; (try dsimp only at N'); (try rw [stored_new (by assumption)] at hd'); (try k_sweep)))
local macro_rules | `(tactic| walk_at "compareOp In int ref") => `(tactic| (k_here; k_dflt (first
  | (refine' mp_in0 (knd := PySem.intKind _ _) ?N ?m ?d ?lo (intKind_is _ _ _ _) ?hl ?_; (case N => k_asm); (case m => k_mem); (case d => assumption); (case lo => assumption); (case hl => assumption); k_whole)
  | (refine' mp_in1 (knd := PySem.intKind _ _) ?N ?m ?d ?lo (intKind_is _ _ _ _) ?hl ?_; (case N => k_asm); (case m => k_mem); (case d => assumption); (case lo => assumption); (case hl => assumption); k_whole))))
local macro_rules | `(tactic| walk_at "subscriptTail") => `(tactic| (k_here; (with_reducible show wpAny _ _ (subscriptTail _ _ (Value.ref _) (Value.int _ _)) _ _ _); k_dflt (refine' kda_item (knd := PySem.intKind _ _) ?N ?m ?d (intKind_is _ _ _ _) ?hl ?_ ?hs ?hg; (case N => k_asm); (case m => k_mem); (case d => assumption); (case hl => assumption); (case hs => with_unfolding_all rfl); (case hg => (intro _; with_unfolding_all rfl)); k_whole)))
local macro_rules | `(tactic| walk_at "getMethod ref") => `(tactic| (k_here; (with_reducible show wpAny _ _ (getMethod (Value.ref _) (Str.ofString "get") _) _ _ _); k_dflt (refine' kdg_method (knd := PySem.intKind _ _) ?N ?m ?d ?_; (case N => k_asm); (case m => k_mem); (case d => assumption); k_whole)))
local macro_rules | `(tactic| walk_at "call builtin:dict.get") => `(tactic| (k_here; k_dflt (refine' kdg_get1 (knd := PySem.intKind _ _) ?N ?m ?d ?lo (intKind_is _ _ _ _) _ ?hl ?_; (case N => k_asm); (case m => k_mem); (case d => assumption); (case lo => assumption); (case hl => assumption); k_whole); (try dsimp only [Option.getD])))
local macro_rules | `(tactic| walk_at "getAttr ref") => `(tactic| (k_here; k_dflt (refine' exc_getK ?F ?X ?I ?ga ?gt ?hb ?hh ?ha ?hn ?hl ?hv ?_; (case I => (first | (refine' instE ?iN ?i1 ?i2; (case iN => k_asm); (case i1 => k_mem); (case i2 => k_mem)) | (refine' instEB ?iF ?i1 ?iN ?i2; (case iF => k_asm); (case i1 => assumption); (case iN => k_asm); (case i2 => k_mem)))); (case F => k_asm); (case X => k_asm); (case ga => k_is); (case gt => k_is); (case hb => k_is); (case hh => k_is); (case ha => k_is); (case hn => k_is); (case hl => k_get); (case hv => k_handed); k_whole)))
local macro_rules | `(tactic| walk_at "setAttr ref") => `(tactic| (k_here; k_dflt (first
  | (refine' exc_setK ?F ?X ?N ?I ?hd ?hs ?hc ?hp ?hdd ?ho ?ht ?hl ?e ?U ?hz ?_; (case I => (first | (refine' instE ?iN ?i1 ?i2; (case iN => k_asm); (case i1 => k_mem); (case i2 => k_mem)) | (refine' instEB ?iF ?i1 ?iN ?i2; (case iF => k_asm); (case i1 => assumption); (case iN => k_asm); (case i2 => k_mem)))); (case F => k_asm); (case X => k_asm); (case N => k_asm); (case hd => exact rfl); (case hs => k_is); (case hc => k_is); (case hp => first | exact pass87 _ | exact pass125 _); (case hdd => exact rfl); (case ho => k_is); (case ht => k_is); (case hl => k_get); (case e => k_put); (case U => k_upd); (case hz => exact Nat.le_of_ble_eq_true rfl); k_whole; intro h' F' N'; (try k_sweep))
  | (refine' exc_set0K ?F ?X ?N ?hs ?hc ?hp ?hdd ?ho ?ht ?U ?_; (case F => k_asm); (case X => k_asm); (case N => k_asm); (case U => (intro d'; k_upd)); (case hs => k_is); (case hc => k_is); (case hp => first | exact pass87 _ | exact pass125 _); (case hdd => exact rfl); (case ho => k_is); (case ht => k_is); k_whole; intro d' h' F' N' l1; (try k_lt l1); (try k_sweep)))))
local macro_rules | `(tactic| walk_at "call ref") => `(tactic| (k_here; k_dflt (refine' exc_callK ?F ?X ?N ?hC ?a ?b ?c ?d ?e ?f ?g ?hr ?_; (case F => k_asm); (case X => k_asm); (case N => k_asm); (case hC => k_is); (case a => decide +kernel); (case b => decide +kernel); (case c => decide +kernel); (case d => k_is); (case e => k_is); (case f => k_is); (case g => k_is); (case hr => exact Nat.le_of_ble_eq_true rfl); k_whole; intro x' t' h' F' N' l1 l2; (try k_lt l1); (try k_lt2 l2); (try k_sweep); k_enter)))
local macro_rules | `(tactic| walk_at "call builtin:getattr") => `(tactic| (k_here; (with_reducible show wpAny _ _ (call (Value.builtin _) [Value.none, Value.str _ _, _]) _ _ _); k_dflt (refine' ga3_noneK ?F ?N ?hA ?nm ?hm ?hz ?_; (case F => k_asm); (case N => k_asm); (case hA => exact rfl); (case nm => decide); (case hm => exact am_miss_of_fast (by kernel_rfl)); (case hz => (rw [sizeLine_eq]; decide)); k_whole; intro h' tk' F' N'; (try k_sweep))))
local macro_rules | `(tactic| walk_at "call builtin:getattr") => `(tactic| (k_here; (with_reducible show wpAny _ _ (call (Value.builtin _) [Value.ref _, Value.str (Str.ofString "name") _, _]) _ _ _); k_dflt (refine' ga_nameK ?F ?X ?N ?e ?d ?_; (case F => k_asm); (case X => k_asm); (case N => k_asm); (case e => assumption); (case d => (first | assumption | (repeat (first | assumption | refine List.Mem.tail _ ?_)))); k_whole; intro nm' tk')))
local macro_rules | `(tactic| walk_at "setAttr ref") => `(tactic| (k_here; (with_reducible show wpAny _ _ (setAttr (Value.ref _) (Str.ofString "expr") _) _ _ _); k_dflt (refine' er_set_expr ?F ?X ?N ?I ?hd ?U ?_; (case I => (first | (refine' instE ?iN ?i1 ?i2; (case iN => k_asm); (case i1 => k_mem); (case i2 => k_mem)) | (refine' instEB ?iF ?i1 ?iN ?i2; (case iF => k_asm); (case i1 => assumption); (case iN => k_asm); (case i2 => k_mem)))); (case F => k_asm); (case X => k_asm); (case N => k_asm); (case hd => exact rfl); (case U => k_upd); k_whole; intro h' F' N'; (try k_sweep))))
local macro_rules | `(tactic| walk_at "setAttr ref") => `(tactic| (k_here; (with_reducible show wpAny _ _ (setAttr (Value.ref _) (Str.ofString "pos") _) _ _ _); k_dflt (refine' er_set_pos ?F ?X ?N ?I ?hd ?U ?_; (case I => (first | (refine' instE ?iN ?i1 ?i2; (case iN => k_asm); (case i1 => k_mem); (case i2 => k_mem)) | (refine' instEB ?iF ?i1 ?iN ?i2; (case iF => k_asm); (case i1 => assumption); (case iN => k_asm); (case i2 => k_mem)))); (case F => k_asm); (case X => k_asm); (case N => k_asm); (case hd => exact rfl); (case U => k_upd); k_whole; intro h' F' N'; (try k_sweep))))
local macro_rules | `(tactic| k_all) => `(tactic| first | (refine ?_; assumption) | exact allLt_at (by assumption) | exact allLt_lt (by assumption) (ltN (by (try dsimp only); omega)))
local macro_rules | `(tactic| k_lt $h:ident) => `(tactic| (replace $h := allLt_of $h; (simp only [AllLt, and_true] at $h:ident); (repeat (refine And.elim ?_ $h; clear $h; intro _ $h))))
local macro_rules | `(tactic| walk_at "execs cons") => `(tactic| (k_here; (with_reducible refine toks_any ?_); intro tk))
local macro_rules | `(tactic| walk_at "execs nil") => `(tactic| (k_here; (with_reducible refine toks_any ?_); intro tk))
local macro_rules | `(tactic| k_all) => `(tactic| first | exact plain_at (by assumption) | exact plain_lt (by assumption) (by assumption) | exact allLt_lt2 (by assumption) (by assumption))
local macro_rules | `(tactic| walk_at "call ref") => `(tactic| (k_here; ks_any; k_dflt (
   (refine' call_cls ?k1 ?k2 ?k3 ?k4 ?k5 ?k6 ?_; (case k1 => k_asm); (case k2 => k_asm); (case k3 => k_asm); (case k4 => k_is); (case k5 => k_is); (case k6 => k_is); intro x' d' h' F' N' l1 l2; (try k_lt l1); (try k_lt2 l2);
    (refine' both_super ?k1 ?k2 ?k3 ?k4 ?k5 ?kA ?kF ?kK ?k6 ?k7 ?k8 ?kV ?kX ?kQ ?kM ?kN ?kD ?kR ?kP ?kS ?kT ?kB ?_ ?c1 ?c2 ?c3 ?c4; (case kA => exact rfl); (case kF => exact rfl); (case kK => exact rfl); (case k1 => k_asm); (case k2 => k_asm); (case k3 => k_asm); (case k4 => k_asm); (case k5 => k_asm); (case k6 => k_is); (case k7 => k_is); (case k8 => k_room); (case kV => kp_lit); (case kX => kp_lit); (case kQ => exact rfl); (case kM => exact rfl); (case kN => exact rfl); (case kD => kp_flats); (case kR => exact rfl); (case kP => exact rfl); (case kS => exact fun _ => rfl); (case kT => exact fun _ _ => rfl); (case kB => exact fun _ _ => locs rfl); (case c1 => exact rfl); (case c2 => exact rfl); (case c3 => exact rfl); (case c4 => decide); intro C' D' o' g' L' h' tk' l1 l2 lo' hs' fs' FG' F' N' B' X' T'; (try k_lt l1); (try k_lt2 l2); (try dsimp only); (try k_lift B'))))))
theorem make_one {w : World} {dp un : Nat} {gd : Option (List Code)} {cn : Str} {sn : List (Str × NameKind)} {sg sc : Bool} {sm : List (Str × Const)} {a : Addr} {ccd : Value} {cl : List (Str × Addr)} {outer : List Env} {A₀ : Around} {base h₀ : Heap} {L : Addr} {m : Str → Option Value} {s : Shared}
  {p : Program} {loose : List Str} {mean : ExcName → Option Value} {mg mb : Str → Option Value} {Q E : Value → Shared → Prop}
  (B : Below A₀ base outer h₀) (F : Fr h₀ L s.heap m) (X : (hd.heap_39 w.params).In h₀) (T : Top p loose mean mg mb h₀)
  (hd : dp + 20 < recursionLimit) (hu : un + 160 < cLine)
  {x y : Addr} {tn : Tok} {rest : List (Addr × Obj)} (N : News h₀ L s.heap rest)
  (ret : ∀ x' d tm it tk1 h' tk', Fr h₀ L h' m → News h₀ L h' ((x', oneObj d tm it (.str (Str.ofString "s") tk1)) :: (d, dictOf [] 0) :: (tm, tupObj #[.ref x, .ref y]) :: rest) → (∀ q ∈ rest, @LT.lt Nat _ q.1 d) → @LT.lt Nat _ d x' → @LT.lt Nat _ x' tm → Q (.ref x') ⟨h', s.gens, s.drawn, tk', s.os⟩)
  : wpAny (model PySem.Challenge.rw_vj0018_01.row.prog w) (ktrTop dp un gd cn ⟨.function, sn, sg, sc, sm⟩ L a ccd cl outer) (call (.ref 451) [.ref x, .ref y] [(Str.ofString "name", .str (Str.ofString "s") tn)]) Q E s := by
  k_steps
  rename Fr h₀ _ _ _ => F9
  rename News h₀ _ _ _ => N9
  refine ret _ _ _ _ _ _ _ F9 (News.sub N9 (List.forall_mem_cons.mpr ⟨by k_mem, List.forall_mem_cons.mpr ⟨by k_mem, List.forall_mem_cons.mpr ⟨by k_mem, fun q hq => by repeat (first | exact hq | refine List.Mem.tail _ ?_)⟩⟩⟩)) ?_ ?_ ?_ <;> assumption
end Mine
end
section
open PySem PySem.W PyProof.Rows PySem.Calls PySem.Spec
set_option Elab.async false
set_option maxRecDepth 100000
set_option maxHeartbeats 40000000
namespace Mine
theorem prime_law : (fun (_ : OpenLaw) (_ : Params → Frag) => True) PySem.Challenge.rw_vj0018_01 hd.heap_39 := by
  w_top off
  k_fill
  trivial
local macro_rules | `(tactic| walk_at "execs cons") => `(tactic| (k_here; (with_reducible refine toks_any ?_); intro tk))
local macro_rules | `(tactic| walk_at "execs nil") => `(tactic| (k_here; (with_reducible refine toks_any ?_); intro tk))
local macro_rules | `(tactic| k_all) => `(tactic| first | exact plain_at (by assumption) | exact plain_lt (by assumption) (by assumption) | exact allLt_lt2 (by assumption) (by assumption))
local macro_rules | `(tactic| k_all) => `(tactic| first | (refine ?_; assumption) | exact allLt_at (by assumption) | exact allLt_lt (by assumption) (ltN (by (try dsimp only); omega)))
local macro_rules | `(tactic| k_lt $h:ident) => `(tactic| (replace $h := allLt_of $h; (simp only [AllLt, and_true] at $h:ident); (repeat (refine And.elim ?_ $h; clear $h; intro _ $h))))
local macro_rules | `(tactic| walk_at "call ref") => `(tactic| (k_here; (with_reducible show wpAny _ _ (call (Value.ref _) _ _) _ _ _); (refine Stop.go ?_)))
local macro_rules | `(tactic| k_get) => `(tactic| (refine ?_; assumption))
local macro_rules | `(tactic| walk_at "callWith ref") => `(tactic| (k_here; k_dflt (refine' callWith_K ?k1 ?k2 ?_; (case k1 => k_asm); (case k2 => k_is); k_whole)))
local macro_rules | `(tactic| walk_at "compareOp NotEq ref ref") => `(tactic| (k_here; (refine Stop.go ?_)))
local macro_rules | `(tactic| walk_at "subscriptTail") => `(tactic| (k_here; (with_reducible show wpAny _ _ (subscriptTail _ _ (Value.ref _) (Value.int _ _)) _ _ _); k_dflt (refine' item_ref ?N ?m ?v ?j ?z ?hs ?_; (case N => k_asm); (case m => k_mem); (case v => assumption); (case j => omega); (case z => omega); (case hs => with_unfolding_all rfl); k_whole)))
local macro_rules | `(tactic| walk_at "call builtin:len") => `(tactic| (k_here; (with_reducible show wpAny _ _ (call (Value.builtin "len") [Ctx.text _]) _ _ _); k_dflt (refine' len_text ?Fi ?_; (case Fi => assumption); k_whole)))
theorem top_law : PySem.Challenge.rw_vj0018_01.Holds := by
  refine hd ?_
  w_strict (
    (k_fill);
    (intro w s₀ s₁ mg mb G Y fa o pm cd doc dV kV ho hd hcd hD hmg hg args vals as hpre hlay hrd hwl hlo);
    (have KX := km_in_of Y);
    (have hT8 := km_tabs_of Y);
    (have X := (Ground.X G).1);
    (have V := (Ground.X G).2);
    (refine Ground.open G ?_);
    (intro T B D TE TW);
    (try (refine guard_noD D (by decide +kernel) ?_; clear D));
    (have hT9 : TabsAt [(393, 389), (211, 207)] s₁.heap := List.forall_mem_cons.mpr ⟨⟨codeHd_of_K (c := 393) (P := 389) KX (by kernel_rfl), hT8 389 (by k_mem)⟩, List.forall_mem_cons.mpr ⟨⟨codeHd_of_K (c := 211) (P := 207) KX (by kernel_rfl), hT8 207 (by k_mem)⟩, fun _ h => nomatch h⟩⟩);
    (clear hmg);
    (wrow_args hpre hlay hrd hwl hlo);
    (all_goals (
      (first | refine callC_kw (enter_call ?_) | refine enter_call ?_);
      (w_top on);
      (refine post_law hT9 (fun _ => rfl) (by kc_post) ?_);
      (w_call any ho hd hcd hD T F);
      (clear hd);
      (kn_ghosts F T);
      (k_drop);
      skip)));
  rename Below callerA _ _ _ => B
  rename Frag.In _ _ => X
  rename Fr _ _ _ _ => F
  rename News _ _ _ _ => N
  rename IntsAre _ _ => hI
  clear G Y hT8 V TE TW hT9
  generalize hh0 : ghostOf s₁.heap [(393, 389), (211, 207)] = h₀ at *
  refine wpAny_mono (Q := fun fl s' => Stop (fl = .ret (.bool true) ∧ s'.os = s₁.os ∧ AllBare s'.gens ∧ ∃ mm ps1 ps2, Fr h₀ s₁.heap.objs.size s'.heap mm ∧ News h₀ s₁.heap.objs.size s'.heap [(389, tabObj ps1), (207, tabObj ps2)])) (E := fun _ _ => False) ?walk ?post (fun _ _ e => e.elim)
  case post =>
    rintro fl ⟨h9, gs9, d9, tk9, o9⟩ ⟨⟨rfl, rfl, hb9, mm, ps1, ps2, F9, N9⟩⟩
    dsimp only at F9 N9 hb9
    subst hh0
    exact ⟨rfl, F9.keep, rfl, hb9, GrownAt.of N9 (.head _), GrownAt.of N9 (.tail _ (.head _)), trivial⟩
  case walk =>
    try k_fold
    k_steps
    refine Stop.mk ?_
    k_dflt (refine' w_next ?Bvp ?Fvp ?Xvp ?Tvp ?dvp ?uvp ?hkvp ?hlvp ?hivp ?hsvp ?hcvp ?Nvp ?djvp ?rvp)
    case Bvp => k_asm
    case Fvp => k_asm
    case Xvp => k_asm
    case Tvp => k_asm
    case dvp => ((try simp only [depth_mark, depth_deeper, depth_under_make, depth_under_kw, depth_in1]); (try dsimp only [ktrTop]); decide)
    case uvp => ((try simp only [units_in1, units_deeper, Around.mark_units]); (try dsimp only [ktrTop]); (rw [cLine_is]; decide))
    case Nvp => k_asm
    case hkvp => first | decide | omega
    case hlvp => first | decide | omega
    case hivp => assumption
    case hsvp => ((simp only [List.length_take]); omega)
    case hcvp => k_mem
    case djvp => ((simp only [List.forall_mem_cons]); (repeat' (first | (refine And.intro ?_ ?_) | k_ne | exact fun _ h => nomatch h)))
    intro vpz vpt vpk vpc vph vpm vplo vphi vpF vpN
    obtain ⟨vp, rfl⟩ := Int.eq_ofNat_of_zero_le vplo
    dsimp only
    try k_sweep
    k_steps
    refine Stop.mk ?_
    k_dflt (refine' w_next ?Bvq ?Fvq ?Xvq ?Tvq ?dvq ?uvq ?hkvq ?hlvq ?hivq ?hsvq ?hcvq ?Nvq ?djvq ?rvq)
    case Bvq => k_asm
    case Fvq => k_asm
    case Xvq => k_asm
    case Tvq => k_asm
    case dvq => ((try simp only [depth_mark, depth_deeper, depth_under_make, depth_under_kw, depth_in1]); (try dsimp only [ktrTop]); decide)
    case uvq => ((try simp only [units_in1, units_deeper, Around.mark_units]); (try dsimp only [ktrTop]); (rw [cLine_is]; decide))
    case Nvq => k_asm
    case hkvq => first | decide | omega
    case hlvq => first | decide | omega
    case hivq => assumption
    case hsvq => ((simp only [List.length_take]); omega)
    case hcvq => k_mem
    case djvq => ((simp only [List.forall_mem_cons]); (repeat' (first | (refine And.intro ?_ ?_) | k_ne | exact fun _ h => nomatch h)))
    intro vqz vqt vqk vqc vqh vqm vqlo vqhi vqF vqN
    obtain ⟨vq, rfl⟩ := Int.eq_ofNat_of_zero_le vqlo
    dsimp only
    try k_sweep
    k_steps
    refine Stop.mk ?_
    k_dflt (refine' w_next ?Bvr ?Fvr ?Xvr ?Tvr ?dvr ?uvr ?hkvr ?hlvr ?hivr ?hsvr ?hcvr ?Nvr ?djvr ?rvr)
    case Bvr => k_asm
    case Fvr => k_asm
    case Xvr => k_asm
    case Tvr => k_asm
    case dvr => ((try simp only [depth_mark, depth_deeper, depth_under_make, depth_under_kw, depth_in1]); (try dsimp only [ktrTop]); decide)
    case uvr => ((try simp only [units_in1, units_deeper, Around.mark_units]); (try dsimp only [ktrTop]); (rw [cLine_is]; decide))
    case Nvr => k_asm
    case hkvr => first | decide | omega
    case hlvr => first | decide | omega
    case hivr => assumption
    case hsvr => ((simp only [List.length_take]); omega)
    case hcvr => k_mem
    case djvr => ((simp only [List.forall_mem_cons]); (repeat' (first | (refine And.intro ?_ ?_) | k_ne | exact fun _ h => nomatch h)))
    intro vrz vrt vrk vrc vrh vrm vrlo vrhi vrF vrN
    obtain ⟨vr, rfl⟩ := Int.eq_ofNat_of_zero_le vrlo
    dsimp only
    try k_sweep
    k_steps
    refine Stop.mk ?_
    k_dflt (refine' w_next ?Bvn ?Fvn ?Xvn ?Tvn ?dvn ?uvn ?hkvn ?hlvn ?hivn ?hsvn ?hcvn ?Nvn ?djvn ?rvn)
    case Bvn => k_asm
    case Fvn => k_asm
    case Xvn => k_asm
    case Tvn => k_asm
    case dvn => ((try simp only [depth_mark, depth_deeper, depth_under_make, depth_under_kw, depth_in1]); (try dsimp only [ktrTop]); decide)
    case uvn => ((try simp only [units_in1, units_deeper, Around.mark_units]); (try dsimp only [ktrTop]); (rw [cLine_is]; decide))
    case Nvn => k_asm
    case hkvn => first | decide | omega
    case hlvn => first | decide | omega
    case hivn => assumption
    case hsvn => ((simp only [List.length_take]); omega)
    case hcvn => k_mem
    case djvn => ((simp only [List.forall_mem_cons]); (repeat' (first | (refine And.intro ?_ ?_) | k_ne | exact fun _ h => nomatch h)))
    intro vnz vnt vnk vnc vnh vnm vnlo vnhi vnF vnN
    obtain ⟨vn, rfl⟩ := Int.eq_ofNat_of_zero_le vnlo
    dsimp only
    try k_sweep
    k_steps
    rename Fr h₀ _ _ _ => F1
    rename News h₀ _ _ _ => N1
    have bp : 1 ≤ vp + 1 ∧ vp + 1 ≤ 4 := by omega
    have bq : 1 ≤ vq + 1 ∧ vq + 1 ≤ 4 := by omega
    have br : 1 ≤ vr + 1 ∧ vr + 1 ≤ 4 := by omega
    have bn : vn ≤ 16 := by omega
    obtain ⟨tt, rfl⟩ := name_text F1
    simp only [one_cast, len_cast] at F1 ⊢
    generalize vp + 1 = p1 at bp F1 ⊢
    generalize vq + 1 = q1 at bq F1 ⊢
    generalize vr + 1 = r1 at br F1 ⊢
    clear vphi vqhi vrhi vnhi vplo vqlo vrlo vnlo
    refine Stop.mk ?_
    k_dflt (refine' w_reach ?Bre ?Fre ?Xre ?Tre ?dre ?ure ?hpre ?hqre ?hrre ?hnre N1 ?rre)
    case Bre => k_asm
    case Fre => k_asm
    case Xre => k_asm
    case Tre => k_asm
    case dre => ((try simp only [depth_mark, depth_deeper, depth_under_make, depth_under_kw, depth_in1]); (try dsimp only [ktrTop]); decide)
    case ure => ((try simp only [units_in1, units_deeper, Around.mark_units]); (try dsimp only [ktrTop]); (rw [cLine_is]; decide))
    case hpre => exact bp.1
    case hqre => exact bq.1
    case hrre => exact br.1
    case hnre => exact bn
    intro ra rows cap M h6 tk6 F6 N6 sub6 ne6 P6
    obtain ⟨Z, N7, nSa, n389, mScr, m207, mRa, P7⟩ := after_reach N6 sub6 ne6 P6 (by intro h; exact absurd (Value.type.inj h) (by decide)) (by intro h; exact absurd (Value.type.inj h) (by decide)) (by intro h; cases h) (by intro h; cases h) (by k_ne) (by k_ne) (by k_ne) (by k_ne) (by decide)
    clear N6 sub6 ne6 P6 F1 N1
    k_steps
    refine Stop.mk ?_
    k_dflt (refine' make_lit ?Blp ?Flp ?Xlp ?Tlp ?dlp ?ulp ?Nlp ?rlp)
    case Blp => k_asm
    case Flp => k_asm
    case Xlp => k_asm
    case Tlp => k_asm
    case dlp => ((try simp only [depth_mark, depth_deeper, depth_under_make, depth_under_kw, depth_in1]); (try dsimp only [ktrTop]); decide)
    case ulp => ((try simp only [units_in1, units_deeper, Around.mark_units]); (try dsimp only [ktrTop]); (rw [cLine_is]; decide))
    case Nlp => k_asm
    intro P dP itP nP hP tkP FP NP aP bP
    try k_sweep
    k_steps
    refine Stop.mk ?_
    k_dflt (refine' lazy_callK ?Flz ?Xlz ?Nlz ?Clz ?alz ?blz ?clz ?dlz ?elz ?flz ?zlz ?rlz)
    case Flz => k_asm
    case Xlz => k_asm
    case Nlz => k_asm
    case Clz => k_is
    case alz => decide +kernel
    case blz => decide +kernel
    case clz => k_is
    case dlz => k_is
    case elz => k_is
    case flz => k_is
    case zlz => (rw [sizeLine_eq]; decide)
    intro Lz dL tz tkLz hLz FLz NLz aL bL
    try k_sweep
    k_steps
    refine Stop.mk ?_
    k_dflt (refine' make_lit ?Blq ?Flq ?Xlq ?Tlq ?dlq ?ulq ?Nlq ?rlq)
    case Blq => k_asm
    case Flq => k_asm
    case Xlq => k_asm
    case Tlq => k_asm
    case dlq => ((try simp only [depth_mark, depth_deeper, depth_under_make, depth_under_kw, depth_in1]); (try dsimp only [ktrTop]); decide)
    case ulq => ((try simp only [units_in1, units_deeper, Around.mark_units]); (try dsimp only [ktrTop]); (rw [cLine_is]; decide))
    case Nlq => k_asm
    intro Qq dQq itQq nQq hQq tkQq FQq NQq aQq bQq
    try k_sweep
    k_steps
    refine Stop.mk ?_
    k_dflt (refine' make_seq ?Bsq ?Fsq ?Xsq ?Tsq ?dsq ?usq ?Nsq ?rsq)
    case Bsq => k_asm
    case Fsq => k_asm
    case Xsq => k_asm
    case Tsq => k_asm
    case dsq => ((try simp only [depth_mark, depth_deeper, depth_under_make, depth_under_kw, depth_in1]); (try dsimp only [ktrTop]); decide)
    case usq => ((try simp only [units_in1, units_deeper, Around.mark_units]); (try dsimp only [ktrTop]); (rw [cLine_is]; decide))
    case Nsq => k_asm
    intro S dS tS itS nS hS tkS FS NS aS bS cS
    try k_sweep
    k_steps
    refine Stop.mk ?_
    k_dflt (refine' make_lit ?Blr ?Flr ?Xlr ?Tlr ?dlr ?ulr ?Nlr ?rlr)
    case Blr => k_asm
    case Flr => k_asm
    case Xlr => k_asm
    case Tlr => k_asm
    case dlr => ((try simp only [depth_mark, depth_deeper, depth_under_make, depth_under_kw, depth_in1]); (try dsimp only [ktrTop]); decide)
    case ulr => ((try simp only [units_in1, units_deeper, Around.mark_units]); (try dsimp only [ktrTop]); (rw [cLine_is]; decide))
    case Nlr => k_asm
    intro T dT itT nT hT tkT FT NT aT bT
    try k_sweep
    k_steps
    refine Stop.mk ?_
    k_dflt (refine' make_one ?Boo ?Foo ?Xoo ?Too ?doo ?uoo ?Noo ?roo)
    case Boo => k_asm
    case Foo => k_asm
    case Xoo => k_asm
    case Too => k_asm
    case doo => ((try simp only [depth_mark, depth_deeper, depth_under_make, depth_under_kw, depth_in1]); (try dsimp only [ktrTop]); decide)
    case uoo => ((try simp only [units_in1, units_deeper, Around.mark_units]); (try dsimp only [ktrTop]); (rw [cLine_is]; decide))
    case Noo => k_asm
    intro R dR tR itR nR hR tkR FR NR aR bR cR
    try k_sweep
    k_steps
    refine Stop.mk ?_
    rename Obj.IsDictOf _ _ _ => hdm
    k_dflt (refine' law_rule tt bp bq br bn ?hA ?hfr ?hL ?hk ?hd ?hu ?B ?F ?X ?T ?ht ?hb hdm ?N nSa n389 aP bP ?h2 bL ?h4 bQq ?h6 bS cS ?h9 bT ?h11 bR cR ?h14 ?ret)
    case hA => exact rfl
    case hfr => exact rfl
    case hL => exact rfl
    case hk => exact rfl
    case hd => ((try simp only [depth_mark, depth_deeper, depth_under_make, depth_under_kw, depth_in1]); (try dsimp only [ktrTop]); decide)
    case hu => ((try simp only [units_in1, units_deeper, Around.mark_units]); (try dsimp only [ktrTop]); (rw [cLine_is]; decide))
    case B => k_asm
    case F => k_asm
    case X => k_asm
    case T => k_asm
    case ht => exact trivial
    case hb => (rw [hg]; exact fun _ h => nomatch h)
    case N => k_asm
    case h2 => exact aL _ (.head _)
    case h4 => exact aQq _ (.head _)
    case h6 => exact aS _ (.head _)
    case h9 => exact aT _ (.tail _ (.tail _ (.head _)))
    case h11 => exact aR _ (.head _)
    case h14 => assumption
    intro c hX gs tkX ps' W eR eT ep eq er en Fi its0 hbX FX NX nSa' nMd djX sZ mR RS
    clear aP bP aL bL aQq bQq aS bS cS aT bT aR bR cR nSa n389
    try k_sweep
    subst eR ep eq er en
    dsimp only at FX NX nSa'
    rw [show Value.str (Txt.mul (Str.ofString "x") (c.n : Int)) tt = c.text from eT.symm] at FX
    clear eT hdm
    have K0sub := sZ
    refine wpAny_execs_cons ?_
    refine for_lst (h₀ := h₀) rfl ?_
    k_steps
    refine Stop.mk ?_
    k_dflt (refine' w_next ?Bva ?Fva ?Xva ?Tva ?dva ?uva ?hkva ?hlva ?hiva ?hsva ?hcva ?Nva ?djva ?rva)
    case Bva => k_asm
    case Fva => k_asm
    case Xva => k_asm
    case Tva => k_asm
    case dva => ((try simp only [depth_mark, depth_deeper, depth_under_make, depth_under_kw, depth_in1]); (try dsimp only [ktrTop]); decide)
    case uva => ((try simp only [units_in1, units_deeper, Around.mark_units]); (try dsimp only [ktrTop]); (rw [cLine_is]; decide))
    case Nva => k_asm
    case hkva => first | decide | omega
    case hlva => first | decide | omega
    case hiva => assumption
    case hsva => ((simp only [List.length_take]); omega)
    case hcva => exact .tail _ (List.mem_append_right _ (sZ _ mScr))
    case djva => exact nSa'
    intro vaz vat vak vac vah vam valo vahi vaF vaN
    obtain ⟨va, rfl⟩ := Int.eq_ofNat_of_zero_le valo
    dsimp only
    try k_sweep
    k_steps
    refine Stop.mk ?_
    k_dflt (refine' w_next ?Bvb ?Fvb ?Xvb ?Tvb ?dvb ?uvb ?hkvb ?hlvb ?hivb ?hsvb ?hcvb ?Nvb ?djvb ?rvb)
    case Bvb => k_asm
    case Fvb => k_asm
    case Xvb => k_asm
    case Tvb => k_asm
    case dvb => ((try simp only [depth_mark, depth_deeper, depth_under_make, depth_under_kw, depth_in1]); (try dsimp only [ktrTop]); decide)
    case uvb => ((try simp only [units_in1, units_deeper, Around.mark_units]); (try dsimp only [ktrTop]); (rw [cLine_is]; decide))
    case Nvb => k_asm
    case hkvb => first | decide | omega
    case hlvb => first | decide | omega
    case hivb => assumption
    case hsvb => ((simp only [List.length_take]); omega)
    case hcvb => exact .tail _ (List.mem_append_right _ (sZ _ mScr))
    case djvb => exact nSa'
    intro vbz vbt vbk vbc vbh vbm vblo vbhi vbF vbN
    obtain ⟨vb, rfl⟩ := Int.eq_ofNat_of_zero_le vblo
    dsimp only
    try k_sweep
    k_steps
    rename Fr h₀ _ _ _ => F5
    rename News h₀ _ _ _ => N5
    rename AllLt _ (Md c D0 ++ W) => aX
    have hva : va ≤ c.n := by omega
    have hvb : vb ≤ c.n := by omega
    obtain ⟨K0, mAx, m389, sW, N5', J0⟩ := law_zero N5 RS its0 aX nSa' nMd djX
    refine LstHere.of (vs := [.int 0 _, .int (va : Int) _, .int (vb : Int) _]) F5 N5' ⟨_, News.get N5' (List.mem_append_right _ mAx), rfl, _, rfl⟩ ?_
    clear N5 RS its0 aX nSa' nMd djX vahi vbhi
    try clear K0sub
    intro I hI
    refine lst_ind (a := Str.ofString "start") (b := Str.ofString "reach") (c := Str.ofString "deep") (LawJ h₀ I c K0) ?turn ?done (J0 I hI)
    case done =>
      clear J0
      rintro m nw h tk hm ⟨x, f, D, rest, oi, J⟩ Fd Nd
      have hnw := J.eq
      subst hnw
      have RS' := J.go (rest' := rest) (fun _ h => h)
      obtain ⟨b, t5, t6, hb, hbm⟩ := P7.atm c.n (by omega)
      have hbm' := J.sub _ (sW _ (sZ _ hbm))
      have hra := J.sub _ (sW _ (sZ _ mRa))
      simp only [reachZ] at hbm'
      have N6 := dup2' Nd (List.mem_append_right _ hra) (List.mem_append_right _ hbm')
      have F6 := Fr.std3 Fd hm
      clear Nd Fd F5 N5'
      generalize hG : Md c D ++ rest = G at N6
      k_steps
      refine Stop.mk ?_
      rename News h₀ _ _ _ => N7
      k_dflt (refine' w_parsed (c := c.at_turn x f) (D := D) (rest := rest) ?Bz ?Fz ?Xz ?Tz ?dz ?uz (fine_turn Fi) rfl ?mz RS' ?jz RS'.dR ?Nz J.dj ?ddz ?uuz ?rz)
      case Bz => k_asm
      case Fz => k_asm
      case Xz => k_asm
      case Tz => k_asm
      case dz => ((try simp only [depth_mark, depth_deeper, depth_under_make, depth_under_kw, depth_in1]); (try dsimp only [ktrTop]); decide)
      case uz => ((try simp only [units_in1, units_deeper, Around.mark_units]); (try dsimp only [ktrTop]); (rw [cLine_is]; decide))
      case ddz => ((try simp only [depth_mark, depth_deeper, depth_under_make, depth_under_kw, depth_in1]); (try dsimp only [ktrTop]); decide)
      case uuz => ((try simp only [units_in1, units_deeper, Around.mark_units]); (try dsimp only [ktrTop]); (rw [cLine_is]; decide))
      case mz => exact J.sub _ (sW _ mR)
      case jz => exact fun e => Nat.le_trans (J.len e) (show (3 : Nat) ≤ 99 by decide)
      case Nz => (subst hG; exact News.sub N7 fun p hp => .tail _ (.tail _ hp))
      intro h9 tk9 F9 N9
      clear N7
      k_steps
      rename News h₀ _ _ _ => N11
      rename Fr h₀ _ _ _ => F11
      exact ⟨⟨rfl, rfl, hbX, _, _, _, F11, News.sub N11 (List.forall_mem_cons.mpr ⟨J.sub _ m389, List.forall_mem_cons.mpr ⟨J.sub _ (sW _ (sZ _ m207)), fun _ h => nomatch h⟩⟩)⟩⟩
    case turn =>
      have hKI : ∀ p ∈ K0, p.1 ≠ I := fun p hp => Nat.ne_of_lt (hI p (List.mem_append_right _ hp))
      clear J0 hI
      rintro i v m nw h tk oi' hv hm ⟨x, f, D, rest, oi, J⟩ Fd Nd hit
      have hnw := J.eq
      subst hnw
      obtain ⟨k, tk0, rfl, hk⟩ := three_at hv hva hvb
      have RS' := J.go (rest' := (I, oi') :: rest) (fun _ h => .tail _ h)
      obtain ⟨b, t5, t6, hb, hbm⟩ := P7.atm (c.n - k) (by omega)
      have hbm' := J.sub _ (sW _ (sZ _ hbm))
      have hra := J.sub _ (sW _ (sZ _ mRa))
      simp only [reachZ] at hbm'
      have N6 := dup2' Nd (.tail _ (List.mem_append_right _ hra)) (.tail _ (List.mem_append_right _ hbm'))
      have F6 := Fr.std3 Fd hm
      clear Nd Fd F5 N5'
      generalize hG : Md c D ++ rest = G at N6
      k_steps
      refine Stop.mk ?_
      rename News h₀ _ _ _ => N7
      k_dflt (refine' w_told (c := c.at_turn x f) (D := D) (rest := (I, oi') :: rest) (k := k) ?Bt ?Ft ?Xt ?Tt ?dt ?ut (fine_turn Fi) hk ?mt RS' ?jt ?Dt ?Nt J.dj2 ?ddt ?uut ?rt)
      case Bt => k_asm
      case Ft => k_asm
      case Xt => k_asm
      case Tt => k_asm
      case dt => ((try simp only [depth_mark, depth_deeper, depth_under_make, depth_under_kw, depth_in1]); (try dsimp only [ktrTop]); decide)
      case ut => ((try simp only [units_in1, units_deeper, Around.mark_units]); (try dsimp only [ktrTop]); (rw [cLine_is]; decide))
      case ddt => ((try simp only [depth_mark, depth_deeper, depth_under_make, depth_under_kw, depth_in1]); (try dsimp only [ktrTop]); decide)
      case uut => ((try simp only [units_in1, units_deeper, Around.mark_units]); (try dsimp only [ktrTop]); (rw [cLine_is]; decide))
      case mt => exact .tail _ (J.sub _ (sW _ mR))
      case jt => exact fun e => Nat.le_trans (J.len e) (Nat.le_of_lt (Nat.lt_of_lt_of_le (three_lt hv) (by decide)))
      case Dt => (obtain ⟨es, n, z1, z2, z3, _⟩ := RS'.dR; exact ⟨es, n, z1, z2, z3⟩)
      case Nt => (subst hG; exact mv_iter (News.sub N7 fun p hp => by repeat (first | exact hp | refine List.Mem.tail _ ?_)))
      intro ca er de at_ f' D' rest' fa9 rows9 cap9 h9 tk9 F9 N9 dj9 sub9 RS9 len9 P9
      clear N6 N7 F6
      generalize hG9 : Md (c.at_turn x f) D' ++ rest' = G9 at N9 P9
      try k_sweep
      k_steps
      refine Stop.mk ?_
      k_dflt (refine' w_due (d1 := (reach c.p c.q c.r (c.n - k)).2) (st1 := (k : Int)) ?Bu ?Fu ?Xu ?Tu ?du ?uu ?hdu ?Nu ?ru)
      case Bu => k_asm
      case Fu => k_asm
      case Xu => k_asm
      case Tu => k_asm
      case du => ((try simp only [depth_mark, depth_deeper, depth_under_make, depth_under_kw, depth_in1]); (try dsimp only [ktrTop]); decide)
      case uu => ((try simp only [units_in1, units_deeper, Around.mark_units]); (try dsimp only [ktrTop]); (rw [cLine_is]; decide))
      case hdu => exact Nat.le_trans (reach_dep Fi.r0 _) (Nat.le_trans (Nat.sub_le _ _) bn)
      case Nu => k_asm
      intro Dl ys ri h10 tk10 F10 N10 sub10 ne10 P10
      clear N9 F9
      try k_sweep
      k_steps
      refine Stop.mk ?_
      refine ne_pairs (vs := rows9) (us := ys) (N10 _ (.tail _ (sub10 _ (.head _)))).1 rfl rfl (P9.map fun a o h => (N10 _ (.tail _ (sub10 _ (.tail _ h)))).1) (N10 _ (.head _)).1 rfl rfl (P10.map fun a o h => (N10 _ (.tail _ h)).1) ?hun ?hqn
      case hun => ((try simp only [units_in1, units_deeper, Around.mark_units]); (try dsimp only [ktrTop]); (rw [cLine_is]; decide))
      k_steps
      refine Stop.mk ?_
      rename News h₀ _ _ _ => N11
      rename Fr h₀ _ _ _ => F11
      subst hG9
      obtain ⟨nw', n1, n2, n3, n4⟩ := J.next (x' := (ca, er, de, at_)) hit.1 hKI N11 (fun p hp => .tail _ (sub10 _ (.tail _ hp))) dj9 sub9 RS9 len9
      exact ⟨_, _, _, nw', rfl, F11, n1, n2, ⟨_, (n1 _ (.tail _ (n3 _ mAx))).1, rfl, _, rfl⟩, fun y h1 h2 h3 => by simp only [if_neg h1, if_neg h2, if_neg h3], n4⟩
end Mine
end
open PySem PySem.W PyProof.Rows
set_option Elab.async false
theorem PySem.Challenge.cw_vj0018_01_holds : PySem.Challenge.rw_vj0018_01.Holds := by
  exact Mine.top_law

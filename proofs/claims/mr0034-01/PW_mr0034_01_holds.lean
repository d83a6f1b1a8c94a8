import PyProof.Rows.All
import Wide.All
import OpenK.AllK
import Wide.FinOn
import PySem.Challenge.RW_mr0034_01
set_option Elab.async false

section
open PySem PySem.W PyProof.Rows
set_option maxRecDepth 100000
set_option maxHeartbeats 8000000
namespace Mine
open_top hd for PySem.Challenge.rw_mr0034_01
end Mine
end

section
open PySem PySem.W PyProof.Rows
set_option maxRecDepth 100000
set_option maxHeartbeats 4000000
namespace Mine
open PySem.Builtin PySem.Builtin.ObjectAttr

theorem lk_setattr : typeLookup (.type "function") "__setattr__" = pure (some (.builtin "object.__setattr__")) := by rw [typeLookup_type, builtinLookup_eq_fast]; kernel_rfl
theorem lk_getattribute : typeLookup (.type "function") "__getattribute__" = pure (some (.builtin "object.__getattribute__")) := by rw [typeLookup_type, builtinLookup_eq_fast]; kernel_rfl
theorem lk_getattr : typeLookup (.type "function") "__getattr__" = pure none := by rw [typeLookup_type, builtinLookup_eq_fast]; kernel_rfl
theorem lk_span : typeLookup (.type "function") "span" = pure none := by rw [typeLookup_type, builtinLookup_eq_fast]; kernel_rfl
theorem lk_search : typeLookup (.type "function") "search" = pure none := by rw [typeLookup_type, builtinLookup_eq_fast]; kernel_rfl
theorem lk_bool : typeLookup (.type "function") "__bool__" = pure none := by rw [typeLookup_type, builtinLookup_eq_fast]; kernel_rfl
theorem lk_len : typeLookup (.type "function") "__len__" = pure none := by rw [typeLookup_type, builtinLookup_eq_fast]; kernel_rfl
theorem slot_sa : Slot "function" "__setattr__" "object.__setattr__" :=
  .of (owner := "object") (n := "__setattr__") (by rw [typeLookup_type, builtinLookup_eq_fast]; kernel_rfl) (by decide +kernel) (by decide +kernel) (by decide +kernel)
    (by first | exact .inl (by decide +kernel) | exact .inr (by decide +kernel)) (by rw [isSubtype_type]; kernel_rfl)
theorem slot_ga : Slot "function" "__getattribute__" "object.__getattribute__" :=
  .of (owner := "object") (n := "__getattribute__") (by rw [typeLookup_type, builtinLookup_eq_fast]; kernel_rfl) (by decide +kernel) (by decide +kernel) (by decide +kernel)
    (by first | exact .inl (by decide +kernel) | exact .inr (by decide +kernel)) (by rw [isSubtype_type]; kernel_rfl)
theorem entry_sa : entryFor table "object.__setattr__" = some Builtin.«object.__setattr__» := entryFor_of_tree (by kernel_rfl)
theorem entry_ga : entryFor table "object.__getattribute__" = some Builtin.«object.__getattribute__» := entryFor_of_tree (by kernel_rfl)
theorem args_sa (a b c : Value) : argsOk "object.__setattr__" ⟨[a, b, c], []⟩ := by unfold argsOk; kernel_rfl
theorem args_ga (a b : Value) : argsOk "object.__getattribute__" ⟨[a, b], []⟩ := by unfold argsOk; kernel_rfl
theorem mro_fn : mroOf (.type "function") = pure [.type "function", .type "object"] := by kernel_rfl
theorem refuse_fn (self : Value) : refuseLoop self "__setattr__" [.type "function", .type "object"] = pure () := by kernel_rfl

section
variable {prog : Program} {w : World} {A : Around} {E : Value → Shared → Prop} {s : Shared} {f : Addr} {o : Obj} {name : Str} {v : Value}

/-- a function object is true -/
theorem fn_truthy {Q : Bool → Shared → Prop} (ho : s.heap.get? f = some o) (hc : o.cls = .type "function") (h : Q true s) : wpAny (model prog w) A (truthy (.ref f)) Q E s := by
  have T : s.TypeIs (.ref f) "function" := ⟨o, ho, hc⟩
  unfold truthy callSpecial?
  dsimp only
  refine wpAny_bind (wpAny_bind (wpAny_specialOf T lk_bool (wpAny_pure ?_)))
  dsimp only
  refine wpAny_bind (wpAny_specialOf T lk_len ?_)
  exact wpAny_pure h

/-- an attribute of a function object, out of its own dict -/
theorem fn_getAttr {Q : Value → Shared → Prop} {d : Addr} {m : Str → Option Value} {fd : FuncData} {b : Bool} (ho : s.heap.get? f = some o) (hc : o.cls = .type "function") (hdt : o.data = .func fd) (hd : o.dict = some d)
    (hn : s.heap.Ns d m) (hv : m name = some v) (hnm : typeLookup (.type "function") name = pure none) (hh : handedOut v = pure v) (h : ∀ tk, Q v { s with toks := tk }) : wpAny (model prog w) A (getAttr (.ref f) name b) Q E s := by
  have T : ∀ tk, ({ s with toks := tk } : Shared).TypeIs (.ref f) "function" := fun _ => ⟨o, ho, hc⟩
  unfold getAttr getAttrBy
  refine wpAny_bind (wpAny_mkText (wpAny_holding ?_))
  refine wpAny_bind (wpAny_typeOf (T _) ?_)
  refine wpAny_bind (wpAny_of_eq lk_getattribute ?_)
  dsimp only
  rw [if_neg (by decide)]
  unfold getAttrByItsOwn hookBefore
  refine wpAny_bind (wpAny_ite ?_)
  rw [if_neg (by decide)]
  refine wpAny_pure ?_
  refine wpAny_bind (wpAny_attempt (wpAny_holding ?_))
  unfold callGetattribute
  rw [if_neg (by cases b <;> decide)]
  unfold boundAndCalled
  refine wpAny_bind (wpAny_of_eq (slot_ga.bind _) ?_)
  dsimp only
  refine wpAny_call (codeAny_call_builtin slot_ga.plain entry_ga (slot_ga.check _ _ _ _ _ _ _ _ (T _) (args_ga _ _) ?_))
  unfold Builtin.«object.__getattribute__»
  rw [show slotArgs "__getattribute__" 1 ⟨[.ref f] ++ [.str name s.toks], []⟩ = pure (.ref f, [.str name s.toks]) from rfl]
  refine wpAny_bind (wpAny_pure ?_)
  dsimp only
  refine wpAny_bind (m := attrName (.str name s.toks)) (wpAny_of_eq rfl ?_)
  refine wpAny_bind (wpAny_typeOf (T _) ?_)
  refine wpAny_bind ?_
  unfold find
  refine wpAny_bind (wpAny_of_eq hnm ?_)
  refine wpAny_bind (wpAny_of_eq (a := none) rfl ?_)
  refine wpAny_bind (wpAny_of_eq (a := none) rfl ?_)
  dsimp only
  unfold ownThenClass inOwnDict ObjectAttr.ownDict
  refine wpAny_bind (wpAny_bind (wpAny_bind (wpAny_loadPart ho ?_)))
  rw [hdt]
  dsimp only
  unfold instanceDict
  refine wpAny_bind (wpAny_loadPart ho ?_)
  rw [hc]
  dsimp only
  rw [hd]
  dsimp only
  refine wpAny_pure ?_
  unfold inDict
  dsimp only
  refine wpAny_nsGet hn ?_
  rw [hv]
  dsimp only
  refine wpAny_bind (wpAny_rule (wpAny_pure ?_))
  dsimp only
  refine wpAny_pure ?_
  dsimp only
  exact wpAny_of_eq hh (h _)

/-- a method's name looked for on a function object that has it in its own dict -/
theorem fn_getMethod {Q : Value × List Value → Shared → Prop} {d : Addr} {m : Str → Option Value} {fd : FuncData} {pl : Sem Bool} (ho : s.heap.get? f = some o) (hc : o.cls = .type "function") (hdt : o.data = .func fd) (hd : o.dict = some d)
    (hn : s.heap.Ns d m) (hv : m name = some v) (hnm : typeLookup (.type "function") name = pure none) (hh : handedOut v = pure v) (h : ∀ tk, Q (v, []) { s with toks := tk }) : wpAny (model prog w) A (getMethod (.ref f) name pl) Q E s := by
  have T : s.TypeIs (.ref f) "function" := ⟨o, ho, hc⟩
  unfold getMethod
  dsimp only
  refine wpAny_bind (wpAny_specialOf T lk_getattribute ?_)
  dsimp only
  rw [if_neg (by decide +kernel)]
  refine wpAny_bind (wpAny_specialOf T lk_getattr ?_)
  rw [if_neg (by decide)]
  refine wpAny_bind (wpAny_specialOf T hnm ?_)
  dsimp only
  exact wpAny_bind (fn_getAttr ho hc hdt hd hn hv hnm hh fun tk => wpAny_pure (h tk))

/-- the first attribute stored on a function object -/
theorem fn_setAttr {Q : Unit → Shared → Prop} {fd : FuncData} (ho : s.heap.get? f = some o) (hc : o.cls = .type "function") (hdt : o.data = .func fd) (hd : o.dict = none)
    (hnm : typeLookup (.type "function") name = pure none)
    (h : ∀ h' tk d, s.heap.objs.size ≤ d → h'.get? f = some { o with dict := some d } → h'.Ns d (fun y => if y = name then some v else none) → (∀ b ob, b ≠ f → s.heap.get? b = some ob → h'.get? b = some ob) →
      Q () { s with heap := h', toks := tk }) : wpAny (model prog w) A (setAttr (.ref f) name v) Q E s := by
  have T : ∀ tk, ({ s with toks := tk } : Shared).TypeIs (.ref f) "function" := fun _ => ⟨o, ho, hc⟩
  unfold setAttr callSpecial?
  refine wpAny_bind (wpAny_mkText ?_)
  refine wpAny_bind (wpAny_bind (wpAny_specialOf (T _) lk_setattr ?_))
  dsimp only
  refine wpAny_holding ?_
  refine wpAny_bind (wpAny_of_eq (slot_sa.bind _) ?_)
  dsimp only
  refine wpAny_bind (wpAny_call (codeAny_call_builtin slot_sa.plain entry_sa (slot_sa.check _ _ _ _ _ _ _ _ (T _) (args_sa _ _ _) ?_)))
  unfold Builtin.«object.__setattr__»
  dsimp only [List.isEmpty_nil]
  rw [if_neg (by decide)]
  dsimp only [List.cons_append, List.nil_append]
  rw [refuse_eq]
  refine wpAny_bind (wpAny_bind (wpAny_typeOf (T _) ?_))
  refine wpAny_bind (wpAny_of_eq mro_fn ?_)
  refine wpAny_of_eq (refuse_fn _) ?_
  refine wpAny_bind (m := attrName (.str name s.toks)) (wpAny_of_eq rfl ?_)
  refine wpAny_bind (wpAny_typeOf (T _) ?_)
  refine wpAny_bind (wpAny_of_eq hnm ?_)
  refine wpAny_bind (wpAny_of_eq (a := none) rfl ?_)
  dsimp only
  unfold storeInOwnDict
  refine wpAny_bind (wpAny_of_eq (a := ()) rfl ?_)
  rw [if_neg (by decide)]
  show wpAny _ _ (ownDictForStores (.ref f) >>= _) _ _ _
  unfold ownDictForStores instanceDict
  dsimp only
  refine wpAny_bind (wpAny_bind (wpAny_loadPart ho ?_))
  rw [hc]
  dsimp only
  rw [hd, hdt]
  dsimp only
  rw [if_neg (by decide +kernel)]
  have hx₁ : (s.heap.push { cls := .type "dict", data := .dict #[] }).get? f = some o := Heap.get?_push_of_some _ ho
  have hxs : f ≠ s.heap.objs.size := Nat.ne_of_lt (Heap.lt_size ho)
  refine wpAny_bind (wpAny_alloc ?_)
  refine wpAny_bind (wpAny_update hx₁ ?_)
  unfold dictMade
  dsimp only
  rw [if_neg (by decide +kernel)]
  refine wpAny_bind (wpAny_pure (wpAny_pure ?_))
  dsimp only
  have hgd : ((s.heap.push { cls := .type "dict", data := .dict #[] }).update f fun o => { cls := o.cls, dict := some s.heap.objs.size, data := o.data, slots := o.slots }).get? s.heap.objs.size
      = some { cls := .type "dict", data := .dict #[] } :=
    (Heap.get?_update_ne _ _ _ _ hxs.symm).trans (Heap.get?_push_at rfl rfl)
  have hnd : ((s.heap.push { cls := .type "dict", data := .dict #[] }).update f fun o => { cls := o.cls, dict := some s.heap.objs.size, data := o.data, slots := o.slots }).Ns s.heap.objs.size (fun _ => none) :=
    ⟨_, #[], _, hgd, rfl, fun e he => absurd he (by simp), fun _ => rfl⟩
  unfold storeInDict newKeyGuard
  refine wpAny_bind (wpAny_pure (wpAny_bind (wpAny_nsSet1 (Heap.Ns1.of_empty hnd) fun h' hn' hs => ?_)))
  obtain ⟨oD, esD, epD, hoD, hdD, hcD⟩ := hn'.count (Within.cons name v Within.nil)
  refine wpAny_bind (wpAny_lookBehind hoD (by rw [hdD]; exact pastItsLine_dict (Nat.le_trans hcD (by rw [List.length_cons, List.length_nil, sizeLine_eq]; omega))) ?_)
  refine wpAny_pure ?_
  dsimp only
  refine wpAny_pure ?_
  dsimp only
  refine wpAny_pure ?_
  have hx' : h'.get? f = some { o with dict := some s.heap.objs.size } := by
    refine (hs.2 f hxs).trans (Heap.get?_update_self _ hx₁ ?_)
    obtain ⟨oc, od, odt, osl⟩ := o
    dsimp only at hdt
    subst hdt
    rfl
  obtain ⟨o', es, ep, e1, e2, e3, eu, e4⟩ := hn'
  refine h h' _ s.heap.objs.size (Nat.le_refl _) hx' ⟨o', es, ep, e1, e2, e3, e4⟩ (fun b ob hb hob => ?_)
  exact (hs.2 b (Nat.ne_of_lt (Heap.lt_size hob))).trans ((Heap.get?_update_ne _ _ _ _ hb).trans (Heap.get?_push_of_some _ hob))
end
end Mine
end

section
open PySem PySem.W PyProof.Rows PySem.Calls
set_option maxRecDepth 100000
set_option maxHeartbeats 4000000
namespace Mine

theorem news_sub {h₀ h : Heap} {L : Addr} {l l' : List (Addr × Obj)} (N : News h₀ L h l) (hs : ∀ p ∈ l', p ∈ l) : News h₀ L h l' := fun p hp => N p (hs p hp)

/-- the ground of a call: what the ledger does not bear stays -/
abbrev hid (h : Heap) (news : List (Addr × Obj)) : Heap := hideAll h (news.map (·.1))

theorem hid_stays {h₀ h : Heap} {L : Addr} {m : Str → Option Value} {news : List (Addr × Obj)} (F : Fr h₀ L h m) (N : News h₀ L h news) : h₀.StaysIn (hid h news) := fun b o e =>
  hideAll_get _ (F.keep b o e) fun q => by
    obtain ⟨p, hp, rfl⟩ := List.mem_map.mp q
    rw [(N p hp).2.2] at e; cases e

/-- back in the caller's frame -/
theorem hid_back {h₀ h h' : Heap} {L L' : Addr} {m m' : Str → Option Value} {news news' : List (Addr × Obj)} (F : Fr h₀ L h m) (N : News h₀ L h news)
    (F' : Fr (hid h news) L' h' m') (N' : News (hid h news) L' h' news') : Fr h₀ L h' m ∧ News h₀ L h' news' := by
  have st := hid_stays F N
  obtain ⟨oL, es, ep, hL, hLd, hLk, hLf⟩ := F.ns
  have nL : L ∉ news.map (·.1) := fun q => by
    obtain ⟨p, hp, e⟩ := List.mem_map.mp q
    exact (N p hp).2.1 e
  have hLg := hideAll_get (news.map (·.1)) hL nL
  refine ⟨⟨⟨oL, es, ep, F'.keep L oL hLg, hLd, hLk, hLf⟩, fun b o e => F'.keep b o (st b o e), F.above⟩, fun p hp => ⟨(N' p hp).1, fun q => ?_, ?_⟩⟩
  · have := (N' p hp).2.2; rw [q, hLg] at this; cases this
  · cases q : h₀.get? p.1 with
    | none => rfl
    | some o => have := (N' p hp).2.2; rw [st _ _ q] at this; cases this

section
variable {prog : Program} {w : World} {A : Around} {s : Shared} {h₀ : Heap} {L : Addr} {m : Str → Option Value} {news : List (Addr × Obj)}
  {R : Result → Shared → Prop} {name qual : Str} {params : Arguments} {scope : Scope} {cl : List (Str × Addr)} {dV kV doc pm cdv ct : Value} {an : Option Addr} {fo : Obj} {f : Addr} {args : Args} {binds : List (Str × Value)}

/-- a call of a def without cells -/
theorem callP {body : List Stmt} (F : Fr h₀ L s.heap m) (N : News h₀ L s.heap news) (hlim : h₀.NoLimit)
    (ho : s.heap.get? f = some fo) (hd : fo.data = .func (fnX name qual params body scope cl dV kV doc pm an cdv ct)) (hcd : s.heap.CodeRec cdv qual) (hroom : A.depth < recursionLimit)
    (hbind : BindsTo s (fnX name qual params body scope cl dV kV doc pm an cdv ct) args binds) (hloc : ∀ y ∈ binds, scope.names.lookup y.1 = some .local)
    (hcell : ∀ x ∈ scope.names, x.2 ≠ .cell) (hco : scope.isCoroutine = false) (hgen : scope.isGenerator = false) (hk : scope.kind = .function)
    (h : ∀ L' h₁, Fr (hid s.heap news) L' h₁ (fun y => binds.reverse.lookup y) → News (hid s.heap news) L' h₁ news → h₀.StaysIn (hid s.heap news) → (∀ p ∈ news, p.1 < L') → L' = s.heap.objs.size →
      wpAny (model prog w) (A.deeper (envX qual scope L' f cdv cl)) (execs body (envX qual scope L' f cdv cl))
        (fun fl s' => R (.ok (.ret (match fl with | .ret v => v | _ => .none))) s')
        (fun e s' => wpAny (model prog w) (A.deeper (envX qual scope L' f cdv cl)) (leaving (envX qual scope L' f cdv cl) e) (fun _ s'' => R (.error e) s'') (fun e' s'' => R (.error e') s'') s')
        { s with heap := h₁, toks := s.toks + binds.length }) : codeAny (model prog w) A (.call (.ref f) args) R s := by
  refine codeAny_call_def (fd := fnX name qual params body scope cl dV kV doc pm an cdv ct) (body := body) (binds := binds) hroom ho hd (hlim.keeps F.keep) hcd rfl hbind hcell hloc (fun h₁ hns hk₁ => ?_) hco hgen hk
  exact h s.heap.objs.size h₁ ⟨hns, fun b o e => hk₁ b o (of_hideAll _ e), Nat.le_of_eq (hideAll_size _ _)⟩
    (fun p hp => ⟨hk₁ _ _ (N p hp).1, Nat.ne_of_lt (Heap.lt_size (N p hp).1), hideAll_none _ (List.mem_map_of_mem hp)⟩) (hid_stays F N) (fun p hp => Heap.lt_size (N p hp).1) rfl

/-- a call of a def with cells -/
theorem callC {body : List Stmt} (F : Fr h₀ L s.heap m) (N : News h₀ L s.heap news) (hlim : h₀.NoLimit)
    (ho : s.heap.get? f = some fo) (hd : fo.data = .func (fnX name qual params body scope [] dV kV doc pm an cdv ct)) (hcd : s.heap.CodeRec cdv qual) (hroom : A.depth < recursionLimit)
    (hbind : BindsTo s (fnX name qual params body scope [] dV kV doc pm an cdv ct) args binds)
    (hkind : (binds.all fun y => scope.names.lookup y.1 == some .local || scope.names.lookup y.1 == some .cell) = true)
    (hnd : ((cellsFrom 0 scope.names []).map (·.1)).Nodup) (hco : scope.isCoroutine = false) (hgen : scope.isGenerator = false) (hk : scope.kind = .function)
    (h : ∀ L' h₁ tk cells, Fr (hid s.heap news) L' h₁ (bindL (envOfC qual scope L' f cdv).kindOf binds fun _ => none) → News (hid s.heap news) L' h₁ (cells ++ news) →
      CellsAre (bindC (envOfC qual scope L' f cdv).kindOf binds fun _ => none) (cellsFrom (L' + 1) scope.names []) cells → h₀.StaysIn (hid s.heap news) → (∀ p ∈ news, p.1 < L') →
      wpAny (model prog w) (A.deeper (envOfC qual scope L' f cdv)) (execs body (envOfC qual scope L' f cdv))
        (fun fl s' => R (.ok (.ret (match fl with | .ret v => v | _ => .none))) s')
        (fun e s' => wpAny (model prog w) (A.deeper (envOfC qual scope L' f cdv)) (leaving (envOfC qual scope L' f cdv) e) (fun _ s'' => R (.error e) s'') (fun e' s'' => R (.error e') s'') s')
        { s with heap := h₁, toks := tk }) : codeAny (model prog w) A (.call (.ref f) args) R s := by
  refine codeAny_call_function hroom ho hd hco hgen rfl hcd (hbind _ _ _ _ ?_)
  refine wpAny_newFunctionEnv_cells hk (kindsX hkind _) fun env' he s' x => ?_
  subst he
  refine ⟨(hlim.keeps F.keep).keeps x.toInCall.keep, codeAny_func ?_⟩
  obtain ⟨h₁, tk, rfl, _⟩ := x.done
  have hk₁ := x.toInCall.keep
  obtain ⟨cells, NC, Y⟩ := Cl.news (h₀ := s.heap) (Nat.le_refl _) fun n c hm => ⟨x.cell n c (lookup_of_mem_nodup (cellsFrom_names scope.names 0 (s.heap.objs.size + 1) [] [] rfl ▸ hnd) hm), x.above n c hm⟩
  refine h s.heap.objs.size h₁ tk cells ⟨x.toInCall.ns, fun b o e => hk₁ b o (of_hideAll _ e), Nat.le_of_eq (hideAll_size _ _)⟩ (fun p hp => ?_) Y (hid_stays F N) (fun p hp => Heap.lt_size (N p hp).1)
  rcases List.mem_append.mp hp with hp | hp
  · refine ⟨(NC p hp).1, (NC p hp).2.1, ?_⟩
    cases q : (hid s.heap news).get? p.1 with
    | none => rfl
    | some o => have := of_hideAll _ q; rw [(NC p hp).2.2] at this; cases this
  · exact ⟨hk₁ _ _ (N p hp).1, Nat.ne_of_lt (Heap.lt_size (N p hp).1), hideAll_none _ (List.mem_map_of_mem hp)⟩

/-- a call of a lambda -/
theorem callL {body : Expr} (F : Fr h₀ L s.heap m) (N : News h₀ L s.heap news) (hlim : h₀.NoLimit)
    (ho : s.heap.get? f = some fo) (hd : fo.data = .func (kla_fn name qual params body scope cl pm cdv ct)) (hcd : s.heap.CodeRec cdv qual) (hroom : A.depth < recursionLimit)
    (hbind : bindArgs (kla_fn name qual params body scope cl pm cdv ct) args = pure binds) (hloc : ∀ y ∈ binds, scope.names.lookup y.1 = some .local)
    (hcell : ∀ x ∈ scope.names, x.2 ≠ .cell) (hco : scope.isCoroutine = false) (hgen : scope.isGenerator = false) (hk : scope.kind = .function)
    (h : ∀ L' h₁, Fr (hid s.heap news) L' h₁ (fun y => binds.reverse.lookup y) → News (hid s.heap news) L' h₁ news → h₀.StaysIn (hid s.heap news) → (∀ p ∈ news, p.1 < L') →
      wpAny (model prog w) (A.deeper (envX qual scope L' f cdv cl)) (eval body (envX qual scope L' f cdv cl))
        (fun v s' => R (.ok (.ret v)) s')
        (fun e s' => wpAny (model prog w) (A.deeper (envX qual scope L' f cdv cl)) (leaving (envX qual scope L' f cdv cl) e) (fun _ s'' => R (.error e) s'') (fun e' s'' => R (.error e') s'') s')
        { s with heap := h₁, toks := s.toks + binds.length }) : codeAny (model prog w) A (.call (.ref f) args) R s := by
  refine kla_callFunE hroom ho hd hco hgen rfl hcd ?_
  rw [hbind]
  refine wpAny_pure (wpAny_newFunctionEnv hcell hloc (fun h₁ hns hsb => ⟨(hlim.keeps F.keep).fresh _ hsb, ?_⟩) hk)
  show codeAny _ _ (.expr body (envX qual scope s.heap.objs.size f cdv cl)) _ _
  have hk₁ : ∀ b o, s.heap.get? b = some o → h₁.get? b = some o := fun b o e => hsb.extBut b o (Nat.ne_of_lt (Heap.lt_size e)) (Heap.get?_push_of_some _ e)
  exact kla_codeExpr (h s.heap.objs.size h₁ ⟨hns, fun b o e => hk₁ b o (of_hideAll _ e), Nat.le_of_eq (hideAll_size _ _)⟩
    (fun p hp => ⟨hk₁ _ _ (N p hp).1, Nat.ne_of_lt (Heap.lt_size (N p hp).1), hideAll_none _ (List.mem_map_of_mem hp)⟩) (hid_stays F N) (fun p hp => Heap.lt_size (N p hp).1))
end

/-- what every call of this text stands on -/
structure Cx (w : World) (loose : List Str) (mean : ExcName → Option Value) (mg mb : Str → Option Value) (g : Heap) : Prop where
  X : (hd.heap_39 w.params).In g
  T : Top topProg loose mean mg mb g
  C1 : CodeHd g 34 30
  C2 : CodeHd g 41 37
theorem Cx.keeps {w : World} {loose : List Str} {mean : ExcName → Option Value} {mg mb : Str → Option Value} {g g' : Heap} (x : Cx w loose mean mg mb g) (k : g.StaysIn g') : Cx w loose mean mg mb g' :=
  ⟨x.X.keeps k, x.T.keeps k, x.C1.keeps k, x.C2.keeps k⟩

end Mine
end

section
open PySem PySem.W PyProof.Rows PySem.Calls
set_option maxRecDepth 100000
set_option maxHeartbeats 4000000
namespace Mine

/-- a code table: each of the places is not noted yet, or noted with a code object of the right name -/
def TabOk (ps : Array Value) (specs : List (Pos × Str)) (cs : List (Addr × Obj)) : Prop :=
  TriplesOk ps.toList ∧ ∀ pq ∈ specs, codeAmong pq.1 ps.toList = none ∨ ∃ c oc vs t, codeAmong pq.1 ps.toList = some (.ref c) ∧ (c, oc) ∈ cs ∧ oc.data = .fields vs ∧ vs[1]? = some (.str pq.2 t)
theorem TabOk.mono {ps : Array Value} {specs : List (Pos × Str)} {cs cs' : List (Addr × Obj)} (x : TabOk ps specs cs) (h : ∀ p ∈ cs, p ∈ cs') : TabOk ps specs cs' :=
  ⟨x.1, fun pq hpq => (x.2 pq hpq).imp id fun ⟨c, oc, vs, t, a, b, r⟩ => ⟨c, oc, vs, t, a, h _ b, r⟩⟩
theorem TabOk.empty {specs : List (Pos × Str)} {cs : List (Addr × Obj)} : TabOk #[] specs cs := ⟨trivial, fun _ _ => .inl rfl⟩

theorem triples_append (i j : Int) (t u : Tok) (c : Value) : ∀ l : List Value, TriplesOk l → TriplesOk (l ++ [.int i t, .int j u, c])
  | [], _ => trivial
  | .int _ _ :: .int _ _ :: _ :: r, h => triples_append i j t u c r h
  | [.int _ _], h => h.elim
  | [.int _ _, .int _ _], h => h.elim
theorem codeAmong_append (pos pos' : Pos) (c : Value) : ∀ l : List Value, TriplesOk l →
    codeAmong pos' (l ++ [rawInt pos.line, rawInt pos.col, c]) = match codeAmong pos' l with | some v => some v | none => if (pos.line : Int) == pos'.line && (pos.col : Int) == pos'.col then some c else none
  | [], _ => by simp [codeAmong, rawInt]
  | .int i ti :: .int j tj :: x :: r, h => by
    have ih := codeAmong_append pos pos' c r h
    show (if i == pos'.line && j == pos'.col then some x else codeAmong pos' (r ++ _)) = _
    rw [ih]
    show _ = match (if i == pos'.line && j == pos'.col then some x else codeAmong pos' r) with | some v => some v | none => _
    split <;> rfl
  | [.int _ _], h => h.elim
  | [.int _ _, .int _ _], h => h.elim

theorem TabOk.grow {ps : Array Value} {specs : List (Pos × Str)} {cs : List (Addr × Obj)} {pos : Pos} {qual : Str} {c : Addr} {oc : Obj} {vs : Array Value} {t : Tok} (x : TabOk ps specs cs) (hd : oc.data = .fields vs) (hv : vs[1]? = some (.str qual t))
    (hs : ∀ pq ∈ specs, ((pos.line : Int) == pq.1.line && (pos.col : Int) == pq.1.col) = true → pq.2 = qual) : TabOk (ps ++ #[rawInt pos.line, rawInt pos.col, .ref c]) specs ((c, oc) :: cs) := by
  have e : (ps ++ #[rawInt pos.line, rawInt pos.col, .ref c]).toList = ps.toList ++ [rawInt pos.line, rawInt pos.col, .ref c] := by simp
  refine ⟨by rw [e]; exact triples_append _ _ _ _ _ _ x.1, fun pq hpq => ?_⟩
  rw [e, codeAmong_append _ _ _ _ x.1]
  rcases x.2 pq hpq with h | ⟨c', oc', vs', t', a, b, r⟩
  · rw [h]
    dsimp only
    split
    · rename_i q
      exact .inr ⟨c, oc, vs, t, rfl, .head _, hd, by rw [hs pq hpq q]; exact hv⟩
    · exact .inl rfl
  · rw [a]
    exact .inr ⟨c', oc', vs', t', rfl, .tail _ b, r⟩

section
variable {M : Model} {A : Around} {E : Value → Shared → Prop} {s : Shared} {h₀ : Heap} {L a c P : Addr} {m mg mb : Str → Option Value} {cn : Str} {cs : Scope} {ccd : Value} {cl : List (Str × Addr)} {news : List (Addr × Obj)}
  {p : Program} {loose : List Str} {mean : ExcName → Option Value} {params : Arguments} {body : Expr} {scope : Scope} {ps : Array Value} {pos : Pos} {clos : List (Str × Addr)} {specs : List (Pos × Str)}

/-- a lambda is made, whether its code is noted or not -/
theorem lam_any {Q : Value → Shared → Prop} (F : Fr h₀ L s.heap m) (N : News h₀ L s.heap ((P, tabObj ps) :: news)) (hn : ∀ p ∈ news, p.1 ≠ P) (T : Top p loose mean mg mb h₀) (C : CodeHd h₀ c P) (hcd : ccd = .ref c)
    (TB : TabOk ps specs news) (hsp : ∀ pq ∈ specs, ((pos.line : Int) == pq.1.line && (pos.col : Int) == pq.1.col) = true → pq.2 = (envX cn cs L a ccd cl).qual ++ "<lambda>") (hin : (pos, (envX cn cs L a ccd cl).qual ++ "<lambda>") ∈ specs)
    (hdef : defaultsOf params (envX cn cs L a ccd cl) = ([], [])) (hcl : closureFor scope (envX cn cs L a ccd cl) = pure clos)
    (h : ∀ f c' oc vs t ctv ps' news' h' tk, Fr h₀ L h' m → News h₀ L h' ((f, kla_obj "<lambda>" ((envX cn cs L a ccd cl).qual ++ "<lambda>") params body scope clos ((mg "__name__").getD .none) c' ctv) :: (P, tabObj ps') :: news') →
      (c', oc) ∈ news' → oc.data = .fields vs → vs[1]? = some (.str ((envX cn cs L a ccd cl).qual ++ "<lambda>") t) → TabOk ps' specs news' → (∀ q ∈ news, q ∈ news') → (∀ q ∈ news', q ∈ news ∨ (P < q.1 ∧ ∀ r ∈ news, r.1 < q.1)) →
      (∀ q ∈ news', q.1 < f) → P < f → Q (.ref f) { s with heap := h', toks := tk }) :
    wpAny M A (eval (.Lambda params body scope pos) (envX cn cs L a ccd cl)) Q E s := by
  refine kla_eval hdef ?_
  rcases TB.2 _ hin with hnf | ⟨c', oc, vs, t, hf, hm, hd, hv⟩
  · refine kla_nest F N T C hcd (UpdF.head hn) TB.1 hnf hcl fun f c' oc vs t ctv h' tk F' N' hd hv l1 l2 => ?_
    refine h f c' oc vs t ctv _ ((c', oc) :: news) h' tk F' (news_sub N' fun q hq => ?_) (.head _) hd hv (TB.grow hd hv hsp) (fun q hq => .tail _ hq) (fun q hq => ?_) (fun q hq => ?_) (Nat.lt_trans (l1 _ (.head _)) l2)
    · rcases List.mem_cons.mp hq with rfl | hq
      · exact .head _
      · rcases List.mem_cons.mp hq with rfl | hq
        · exact .tail _ (.tail _ (.head _))
        · rcases List.mem_cons.mp hq with rfl | hq
          · exact .tail _ (.head _)
          · exact .tail _ (.tail _ (.tail _ hq))
    · rcases List.mem_cons.mp hq with rfl | hq
      · exact .inr ⟨l1 _ (.head _), fun r hr => l1 r (.tail _ hr)⟩
      · exact .inl hq
    · rcases List.mem_cons.mp hq with rfl | hq
      · exact l2
      · exact Nat.lt_trans (l1 _ (.tail _ hq)) l2
  · refine kla_hit F N T C hcd (.head _) TB.1 hf hcl fun f ctv h' tk F' N' l1 => ?_
    exact h f c' oc vs t ctv ps news h' tk F' N' hm hd hv TB (fun q hq => hq) (fun q hq => .inl hq) (fun q hq => l1 _ (.tail _ hq)) (l1 _ (.head _))

/-- the first attribute of a function object of the ledger -/
theorem fn_setAttrN {prog : Program} {w : World} {Q : Unit → Shared → Prop} {f : Addr} {o : Obj} {fd : FuncData} {name : Str} {v : Value} (F : Fr h₀ L s.heap m) (N : News h₀ L s.heap ((f, o) :: news)) (hn : ∀ p ∈ news, p.1 ≠ f)
    (hc : o.cls = .type "function") (hdt : o.data = .func fd) (hd : o.dict = none) (hnm : typeLookup (.type "function") name = pure none)
    (h : ∀ h' tk d od es ep, Fr h₀ L h' m → News h₀ L h' ((f, { o with dict := some d }) :: (d, od) :: news) → od.data = .dict es ep → StrKeys es → (∀ y, nsFind es y = if y = name then some v else none) → (∀ q ∈ (f, o) :: news, q.1 < d) →
      Q () { s with heap := h', toks := tk }) : wpAny (model prog w) A (setAttr (.ref f) name v) Q E s := by
  have hf := N _ (.head _)
  refine fn_setAttr hf.1 hc hdt hd hnm fun h' tk d hsz hg hns hk => ?_
  obtain ⟨od, es, ep, e1, e2, e3, e4⟩ := hns
  have lt : ∀ q ∈ (f, o) :: news, q.1 < d := fun q hq => Nat.lt_of_lt_of_le (Heap.lt_size (N q hq).1) hsz
  have hLd : L < d := Nat.lt_of_lt_of_le F.ns.lt hsz
  refine h h' tk d od es ep ⟨?_, fun b ob e => hk b ob (fun q => ?_) (F.keep b ob e), F.above⟩ (fun q hq => ?_) e2 e3 e4 lt
  · obtain ⟨oL, a1, a2, hL, a3⟩ := F.ns
    exact ⟨oL, a1, a2, hk _ _ (Ne.symm hf.2.1) hL, a3⟩
  · subst q; rw [hf.2.2] at e; cases e
  · rcases List.mem_cons.mp hq with rfl | hq
    · exact ⟨hg, hf.2⟩
    · rcases List.mem_cons.mp hq with rfl | hq
      · exact ⟨e1, Nat.ne_of_gt hLd, Heap.get?_none_of_le (Nat.le_trans F.above (Nat.le_of_lt hLd))⟩
      · exact ⟨hk _ _ (hn q hq) (N q (.tail _ hq)).1, (N q (.tail _ hq)).2⟩
end
end Mine
end

section
open PySem PySem.W PyProof.Rows PySem.Calls
set_option maxRecDepth 100000
set_option maxHeartbeats 4000000
namespace Mine

theorem news_swap {h₀ h : Heap} {L : Addr} {a b : Addr × Obj} {l : List (Addr × Obj)} (N : News h₀ L h (a :: b :: l)) : News h₀ L h (b :: a :: l) := news_sub N fun q hq => by
  simp only [List.mem_cons] at hq ⊢
  rcases hq with h | h | h <;> simp [h]

theorem news_name {h₀ h : Heap} {L f : Addr} {o : Obj} {l : List (Addr × Obj)} (N : News h₀ L h ((f, o) :: l)) : ∃ o', o' = o ∧ News h₀ L h ((f, o') :: l) := ⟨o, rfl, N⟩

theorem mem_name {f : Addr} {o : Obj} {l : List (Addr × Obj)} (N : (f, o) ∈ l) : ∃ o', o' = o ∧ (f, o') ∈ l := ⟨o, rfl, N⟩

/-- a function object that bears one attribute, a function -/
def FnAttr (a : Addr) (name : Str) (f : Addr) (l : List (Addr × Obj)) : Prop :=
  ∃ oa fd d od es ep of fd', (a, oa) ∈ l ∧ oa.cls = .type "function" ∧ oa.data = .func fd ∧ oa.dict = some d ∧ (d, od) ∈ l ∧ od.data = .dict es ep ∧ StrKeys es ∧
    (∀ y, nsFind es y = if y = name then some (.ref f) else none) ∧ (f, of) ∈ l ∧ of.data = .func fd'
theorem FnAttr.mono {a f : Addr} {name : Str} {l l' : List (Addr × Obj)} (x : FnAttr a name f l) (h : ∀ p ∈ l, p ∈ l') : FnAttr a name f l' :=
  let ⟨oa, fd, d, od, es, ep, of, fd', h1, h2, h3, h4, h5, h6, h7, h8, h9, h10⟩ := x; ⟨oa, fd, d, od, es, ep, of, fd', h _ h1, h2, h3, h4, h _ h5, h6, h7, h8, h _ h9, h10⟩

abbrev tup2 (x y : Value) : Obj := { cls := .type "tuple", data := .seq #[x, y] }
/-- the call of f gives back the pair of p and the next -/
def SpanOk (prog : Program) (w : World) (loose : List Str) (mean : ExcName → Option Value) (mg mb : Str → Option Value) (f : Addr) (p : Int) (l : List (Addr × Obj)) : Prop :=
  ∀ (A : Around) (s : Shared) (h₀ : Heap) (L : Addr) (m : Str → Option Value) (news : List (Addr × Obj)) (R : Result → Shared → Prop), Cx w loose mean mg mb h₀ → Fr h₀ L s.heap m → News h₀ L s.heap news → (∀ q ∈ l, q ∈ news) → A.depth < 900 →
    (∀ h' T tk t t', Fr h₀ L h' m → News h₀ L h' ((T, tup2 (.int p t) (.int (p + 1) t')) :: news) → (∀ q ∈ news, q.1 < T) → R (.ok (.ret (.ref T))) { s with heap := h', toks := tk }) →
    codeAny (model prog w) A (.call (.ref f) ⟨[], []⟩) R s
section
variable {prog : Program} {w : World} {loose : List Str} {mean : ExcName → Option Value} {mg mb : Str → Option Value}
theorem SpanOk.mono {f : Addr} {p : Int} {l l' : List (Addr × Obj)} (x : SpanOk prog w loose mean mg mb f p l) (h : ∀ q ∈ l, q ∈ l') : SpanOk prog w loose mean mg mb f p l' :=
  fun A s h₀ L m news R cx F N hs hd k => x A s h₀ L m news R cx F N (fun _ hq => hs _ (h _ hq)) hd k
variable (prog w loose mean mg mb) in
def HitL (a : Addr) (p : Int) (l : List (Addr × Obj)) : Prop := ∃ f, FnAttr a "span" f l ∧ SpanOk prog w loose mean mg mb f p l
theorem HitL.mono {a : Addr} {p : Int} {l l' : List (Addr × Obj)} (x : HitL prog w loose mean mg mb a p l) (h : ∀ q ∈ l, q ∈ l') : HitL prog w loose mean mg mb a p l' :=
  let ⟨f, a, b⟩ := x; ⟨f, a.mono h, b.mono h⟩
end

theorem TabOk.move {ps : Array Value} {specs : List (Pos × Str)} {cs cs' : List (Addr × Obj)} (x : TabOk ps specs cs) (h : ∀ p ∈ cs, (∃ vs, p.2.data = .fields vs) → p ∈ cs') : TabOk ps specs cs' :=
  ⟨x.1, fun pq hpq => (x.2 pq hpq).imp id fun ⟨c, oc, vs, t, a, b, d, r⟩ => ⟨c, oc, vs, t, a, h _ b ⟨vs, d⟩, d, r⟩⟩
theorem news_one {h₀ h : Heap} {L : Addr} {l : List (Addr × Obj)} (N : News h₀ L h l) {a : Addr} {o o' : Obj} (h1 : (a, o) ∈ l) (h2 : (a, o') ∈ l) : o = o' := by
  have e1 := (N _ h1).1
  have e2 := (N _ h2).1
  exact Option.some.inj (e1.symm.trans e2)

section
variable {prog : Program} {w : World} {loose : List Str} {mean : ExcName → Option Value} {mg mb : Str → Option Value}
/-- a lambda of no parameter that gives back the pair of its free name's int and the next -/
theorem span_ok {n nm qual : Str} {p1 p2 p3 p4 p5 : Pos} {k1 k2 : Nat} {f c cd : Addr} {of oc ocd : Obj} {scope : Scope} {pm ctv : Value} {p : Int} {t tq : Tok} {vs : Array Value} {l : List (Addr × Obj)}
    (hof : of = kla_obj nm qual ⟨[], [], none, [], [], none, []⟩ (.Tuple [.Name n p1, .BinOp (.Name n p2) .Add (.Constant (.int 1) k1 p3) p4] k2 p5) scope [(n, c)] pm cd ctv) (hs : scope = { kind := .function, names := [(n, .free)], isGenerator := false, isCoroutine := false, more := [] })
    (hd1 : (n == ("__debug__" : Str)) = false) (hd2 : (n == ("__classdict__" : Str)) = false) (hfl : (f, of) ∈ l) (hcl : (c, oc) ∈ l) (hoc : oc.data = .cell (some (.int p t))) (hcd : (cd, ocd) ∈ l) (hv : ocd.data = .fields vs) (hq : vs[1]? = some (.str qual tq)) :
    SpanOk prog w loose mean mg mb f p l := by
  subst hs
  intro A s h₀ L m news R cx F N hs hdep k
  refine callL F N cx.T.nolimit (N _ (hs _ hfl)).1 (by rw [hof]) ⟨cd, ocd, vs, tq, rfl, (N _ (hs _ hcd)).1, hv, hq⟩ (by rw [show recursionLimit = 1000 from rfl]; omega) rfl (by intro y hy; cases hy) (by intro x hx; rcases List.mem_singleton.mp hx with rfl; exact fun h => NameKind.noConfusion h) rfl rfl rfl ?_
  intro L' h₁ F' N' st l1
  have hlk : List.lookup n [(n, c)] = some c := by simp
  have hkd : (envX qual { kind := .function, names := [(n, .free)], isGenerator := false, isCoroutine := false, more := [] } L' f (.ref cd) [(n, c)]).kindOf n = some .free := by show List.lookup n [(n, NameKind.free)] = _; simp
  refine Tuple_ (spliced_more (nameX_F N' hlk (hs _ hcl) hoc (spliced_more (wpAny_BinOp (nameX_F N' hlk (hs _ hcl) hoc (wpAny_Constant_int (add_int (spliced_none ?_))) rfl hkd hd1 hd2))) rfl hkd hd1 hd2))
  refine newTuple_N F' N' fun h' F2 N2 => ?_
  obtain ⟨F3, N3⟩ := hid_back F N F2 N2
  exact k _ _ _ _ _ F3 N3 fun q hq => Heap.lt_size (N' q hq).1
end

abbrev spec30 : List (Pos × Str) := [(⟨29, 10, 29, 22⟩, "_law_hit.<locals>.<lambda>"), (⟨30, 15, 30, 41⟩, "_law_hit.<locals>.<lambda>")]

section
variable {prog : Program} {w : World} {A : Around} {s : Shared} {h₀ : Heap} {L : Addr} {m mg mb : Str → Option Value} {loose : List Str} {mean : ExcName → Option Value} {R : Result → Shared → Prop}

theorem hit_call {p : Int} {t : Tok} {ps : Array Value} {news : List (Addr × Obj)} (cx : Cx w loose mean mg mb h₀) (F : Fr h₀ L s.heap m) (N : News h₀ L s.heap ((30, tabObj ps) :: news)) (hn : ∀ p ∈ news, p.1 ≠ 30) (TB : TabOk ps spec30 news) (hdep : A.depth < 900)
    (k : ∀ a ps' news' h' tk, Fr h₀ L h' m → News h₀ L h' ((30, tabObj ps') :: news') → (∀ q ∈ news, q ∈ news') → (∀ q ∈ news', q ∈ news ∨ (30 < q.1 ∧ ∀ r ∈ news, r.1 < q.1)) → TabOk ps' spec30 news' → HitL prog w loose mean mg mb a p news' →
      R (.ok (.ret (.ref a))) { s with heap := h', toks := tk }) :
    codeAny (model prog w) A (.call (.ref 35) ⟨[.int p t], []⟩) R s := by
  have ff : (PySem.Challenge.rw_mr0034_01, hd.heap_39) = (PySem.Challenge.rw_mr0034_01, hd.heap_39) := by k_fill; rfl
  clear ff
  w_on
  refine callC F N cx.T.nolimit (cx.X.keeps F.keep _ _ (by k_is)) rfl (codeRec_of (cx.X.keeps F.keep) (by k_is)) (by rw [show recursionLimit = 1000 from rfl]; omega) (BindsTo.of_eq rfl) rfl (by decide +kernel) rfl rfl rfl ?_
  intro L' h₁ tk cells F' N' Y' st l1
  obtain ⟨oc, rfl, hoc⟩ := CellsAre.one Y'
  clear Y'
  have hoc' : oc.data = .cell (some (.int p t)) := hoc
  clear hoc
  have cx' := cx.keeps st
  obtain ⟨X', T', C1, C2⟩ := cx'
  have lL : 30 < L' := l1 _ (.head _)
  have N1 : News (hid s.heap ((30, tabObj ps) :: news)) L' h₁ ((30, tabObj ps) :: (L' + 1, oc) :: news) := news_sub N' (by intro q hq; simp only [List.mem_cons, List.mem_append, List.mem_nil_iff, or_false] at hq ⊢; rcases hq with h | h | h <;> simp [h])
  have hn1 : ∀ q ∈ (L' + 1, oc) :: news, q.1 ≠ 30 := by
    intro q hq
    rcases List.mem_cons.mp hq with rfl | hq
    · exact Nat.ne_of_gt (Nat.lt_succ_of_lt lL)
    · exact hn q hq
  have TB1 : TabOk ps spec30 ((L' + 1, oc) :: news) := TB.mono fun q hq => .tail _ hq
  clear N'
  refine id ?_
  k_steps
  have hsp : ∀ (pos : Pos), ∀ pq ∈ spec30, ((pos.line : Int) == pq.1.line && (pos.col : Int) == pq.1.col) = true → pq.2 = (Str.ofString "_law_hit" ++ ".<locals>.") ++ "<lambda>" := by
    intro pos pq hpq _
    rcases List.mem_cons.mp hpq with rfl | hpq
    · decide +kernel
    · rcases List.mem_singleton.mp hpq with rfl
      decide +kernel
  refine lam_any F' N1 hn1 T' C1 rfl TB1 (hsp _) (.head _) rfl rfl ?_
  intro f1 c1 oc1 vs1 t1 ctv1 ps1 news1 h2 tk2 F2 N2 hm1 hd1 hv1 TB2 sub1 fr1 lt1 lt1'
  clear F' N1
  k_steps
  rename Fr _ _ _ _ => F3
  rename News _ _ _ _ => N3
  refine lam_any F3 (news_swap N3) ?_ T' C1 rfl (TB2.mono fun q hq => .tail _ hq) (hsp _) (.tail _ (.head _)) rfl rfl ?_
  · intro q hq
    rcases List.mem_cons.mp hq with rfl | hq
    · exact Nat.ne_of_gt lt1'
    · rcases fr1 q hq with h | h
      · exact hn1 q h
      · exact Nat.ne_of_gt h.1
  intro f2 c2 oc2 vs2 t2 ctv2 ps2 news2 h3 tk3 F4 N4 hm2 hd2 hv2 TB3 sub2 fr2 lt2 lt2'
  clear N3 F3
  k_steps
  obtain ⟨o1, ho1, m1⟩ := mem_name (sub2 _ (List.Mem.head _))
  obtain ⟨of2, hof2, N5⟩ := news_name N4
  clear N4
  let rest : List (Addr × Obj) := ((f2, of2) :: news2).filter fun q => decide (q.1 ≠ f1)
  have hlt12 : f1 < f2 := lt2 _ m1
  have fields_ne : ∀ c oc, (c, oc) ∈ news2 → (∀ fd, oc.data ≠ Data.func fd) → c ≠ f1 := by
    rintro c oc hm hd rfl
    have e := news_one N5 (.tail _ (.tail _ hm)) (.tail _ (.tail _ m1))
    exact hd _ (by rw [e, ho1])
  have in_rest : ∀ q ∈ news2, q.1 ≠ f1 → q ∈ rest := fun q hq hne => List.mem_filter.mpr ⟨.tail _ hq, decide_eq_true hne⟩
  have of_rest : ∀ q ∈ rest, q.1 ≠ f1 ∧ (q = (f2, of2) ∨ q ∈ news2) := fun q hq => by
    obtain ⟨h1, h2⟩ := List.mem_filter.mp hq
    exact ⟨of_decide_eq_true h2, List.mem_cons.mp h1⟩
  have f2_rest : (f2, of2) ∈ rest := List.mem_filter.mpr ⟨.head _, decide_eq_true (Nat.ne_of_gt hlt12)⟩
  have n1f1 : ∀ q ∈ (L' + 1, oc) :: news, q ∈ rest := fun q hq => in_rest q (sub2 q (.tail _ (sub1 q hq))) (Nat.ne_of_lt (lt1 q (sub1 q hq)))
  refine fn_setAttrN F4 (news_sub N5 (l' := (f1, o1) :: (30, tabObj ps2) :: rest) ?_) ?_ (by rw [ho1]) (by rw [ho1]) (by rw [ho1]) lk_span ?_
  · intro q hq
    rcases List.mem_cons.mp hq with rfl | hq
    · exact .tail _ (.tail _ m1)
    · rcases List.mem_cons.mp hq with rfl | hq
      · exact .tail _ (.head _)
      · rcases (of_rest q hq).2 with rfl | h
        · exact .head _
        · exact .tail _ (.tail _ h)
  · intro q hq
    rcases List.mem_cons.mp hq with rfl | hq
    · exact Nat.ne_of_lt lt1'
    · exact (of_rest q hq).1
  intro h4 tk4 d od es ep F6 N6 hod hsk hfind lt6
  clear F4 N5
  dsimp only
  k_steps
  dsimp only
  obtain ⟨F7, N7⟩ := hid_back F N F6 N6
  clear F6 N6
  let news' : List (Addr × Obj) := (f1, { o1 with dict := some d }) :: (d, od) :: rest
  have rest_in : ∀ q ∈ rest, q ∈ news' := fun q hq => .tail _ (.tail _ hq)
  have cell_in : (L' + 1, oc) ∈ news' := rest_in _ (n1f1 _ (.head _))
  have code_in : (c2, oc2) ∈ news' := rest_in _ (in_rest _ hm2 (fields_ne _ _ hm2 fun fd h => by rw [hd2] at h; cases h))
  have SP : SpanOk prog w loose mean mg mb f2 p news' := span_ok hof2 rfl (by decide) (by decide) (rest_in _ f2_rest) cell_in hoc' code_in hd2 hv2
  refine k f1 ps2 news' h4 tk4 F7 (news_sub N7 ?_) ?_ ?_ ?_ ⟨f2, ?_, SP⟩
  · intro q hq
    rcases List.mem_cons.mp hq with rfl | hq
    · exact .tail _ (.tail _ (.head _))
    · rcases List.mem_cons.mp hq with rfl | hq
      · exact .head _
      · rcases List.mem_cons.mp hq with rfl | hq
        · exact .tail _ (.head _)
        · exact .tail _ (.tail _ (.tail _ hq))
  · exact fun q hq => rest_in _ (n1f1 q (.tail _ hq))
  · have up : ∀ r ∈ news, r.1 < f1 := fun r hr => lt1 _ (sub1 _ (.tail _ hr))
    intro q hq
    rcases List.mem_cons.mp hq with rfl | hq
    · exact .inr ⟨lt1', up⟩
    · rcases List.mem_cons.mp hq with rfl | hq
      · exact .inr ⟨lt6 _ (.tail _ (.head _)), fun r hr => Nat.lt_trans (up r hr) (lt6 _ (.head _))⟩
      · obtain ⟨hne, rfl | hq⟩ := of_rest q hq
        · exact .inr ⟨lt2', fun r hr => Nat.lt_trans (up r hr) hlt12⟩
        · rcases fr2 q hq with h | h
          · rcases List.mem_cons.mp h with rfl | h
            · exact absurd rfl hne
            · rcases fr1 q h with h | h
              · rcases List.mem_cons.mp h with rfl | h
                · exact .inr ⟨Nat.lt_succ_of_lt lL, fun r hr => Nat.lt_succ_of_lt (l1 r (.tail _ hr))⟩
                · exact .inl h
              · exact .inr ⟨h.1, fun r hr => h.2 r (.tail _ hr)⟩
          · exact .inr ⟨h.1, fun r hr => h.2 r (.tail _ (sub1 _ (.tail _ hr)))⟩
  · refine TB3.move fun q hq ⟨vs, hd⟩ => rest_in _ (in_rest q hq (fields_ne q.1 q.2 hq fun fd h => ?_))
    rw [hd] at h; cases h
  · exact ⟨_, _, d, od, es, ep, of2, _, .head _, by rw [ho1], by rw [ho1], rfl, .tail _ (.head _), hod, hsk, hfind, rest_in _ f2_rest, by rw [hof2]⟩
end
end Mine
end

section
open PySem PySem.W PyProof.Rows PySem.Calls
set_option maxRecDepth 100000
set_option maxHeartbeats 4000000
namespace Mine

section
variable {M : Model} {A : Around} {E : Value → Shared → Prop} {s : Shared} {h₀ : Heap} {L a c P : Addr} {m mg mb : Str → Option Value} {cn : Str} {cs : Scope} {ccd : Value} {cl : List (Str × Addr)} {news : List (Addr × Obj)}
  {p : Program} {loose : List Str} {mean : ExcName → Option Value} {params : Arguments} {name qual : Str} {body : FuncBody} {scope : Scope} {ps : Array Value} {pos : Pos} {firstLine : Nat} {clos : List (Str × Addr)} {specs : List (Pos × Str)} {dv : List Value}

/-- a def with defaults is made, whether its code is noted or not -/
theorem def_any {Q : Value → Shared → Prop} (F : Fr h₀ L s.heap m) (N : News h₀ L s.heap ((P, tabObj ps) :: news)) (hn : ∀ p ∈ news, p.1 ≠ P) (T : Top p loose mean mg mb h₀) (C : CodeHd h₀ c P) (hcd : ccd = .ref c)
    (TB : TabOk ps specs news) (hsp : ∀ pq ∈ specs, ((pos.line : Int) == pq.1.line && (pos.col : Int) == pq.1.col) = true → pq.2 = qual) (hin : (pos, qual) ∈ specs) (hdv : dv.isEmpty = false)
    (hcl : closureFor scope (envX cn cs L a ccd cl) = pure clos)
    (h : ∀ f td c' oc vs t ctv doc ps' news' h' tk, Fr h₀ L h' m → News h₀ L h' ((f, kdv_obj name qual params body scope clos (.ref td) doc ((mg "__name__").getD .none) c' ctv) :: (P, tabObj ps') :: news') →
      (td, kdv_tup dv) ∈ news' → (c', oc) ∈ news' → oc.data = .fields vs → vs[1]? = some (.str qual t) → TabOk ps' specs news' → (∀ q ∈ news, q ∈ news') → (∀ q ∈ news', q ∈ news ∨ (P < q.1 ∧ ∀ r ∈ news, r.1 < q.1)) →
      (∀ q ∈ news', q.1 < f) → P < f → Q (.ref f) { s with heap := h', toks := tk }) :
    wpAny M A (makeFunction name qual params body scope (envX cn cs L a ccd cl) dv [] [] pos firstLine) Q E s := by
  refine kdv_tuple F N hdv fun td h1 F1 N1 l0 => ?_
  have N2 := news_swap N1
  have hn2 : ∀ q ∈ (td, kdv_tup dv) :: news, q.1 ≠ P := fun q hq => by
    rcases List.mem_cons.mp hq with rfl | hq
    · exact Nat.ne_of_gt (l0 _ (.head _))
    · exact hn q hq
  rcases TB.2 _ hin with hnf | ⟨c', oc, vs, t, hf, hm, hd, hv⟩
  · refine kdv_nest F1 N2 T C hcd (UpdF.head hn2) TB.1 hnf hcl fun f c' oc vs t ctv doc h' tk F' N' hd hv l1 l2 => ?_
    refine h f td c' oc vs t ctv doc (ps ++ #[rawInt pos.line, rawInt pos.col, .ref c']) ((c', oc) :: (td, kdv_tup dv) :: news) h' tk F' (news_sub N' fun q hq => ?_) (.tail _ (.head _)) (.head _) hd hv (TabOk.mono (cs := (c', oc) :: news) (TB.grow hd hv hsp) fun q hq => ?_) (fun q hq => .tail _ (.tail _ hq)) (fun q hq => ?_) (fun q hq => ?_) (Nat.lt_trans (l1 _ (.head _)) l2)
    · rcases List.mem_cons.mp hq with rfl | hq
      · exact .head _
      · rcases List.mem_cons.mp hq with rfl | hq
        · exact .tail _ (.tail _ (.head _))
        · rcases List.mem_cons.mp hq with rfl | hq
          · exact .tail _ (.head _)
          · exact .tail _ (.tail _ (.tail _ hq))
    · rcases List.mem_cons.mp hq with rfl | hq
      · exact .head _
      · exact .tail _ (.tail _ hq)
    · rcases List.mem_cons.mp hq with rfl | hq
      · exact .inr ⟨l1 _ (.head _), fun r hr => l1 r (.tail _ (.tail _ hr))⟩
      · rcases List.mem_cons.mp hq with rfl | hq
        · exact .inr ⟨l0 _ (.head _), fun r hr => l0 r (.tail _ hr)⟩
        · exact .inl hq
    · rcases List.mem_cons.mp hq with rfl | hq
      · exact l2
      · exact Nat.lt_trans (l1 _ (.tail _ hq)) l2
  · refine kdv_hit F1 N2 T C hcd (.head _) TB.1 hf hcl fun f ctv doc h' tk F' N' l1 => ?_
    refine h f td c' oc vs t ctv doc ps ((td, kdv_tup dv) :: news) h' tk F' N' (.head _) (.tail _ hm) hd hv (TB.mono fun q hq => .tail _ hq) (fun q hq => .tail _ hq) (fun q hq => ?_) (fun q hq => l1 _ (.tail _ hq)) (l1 _ (.head _))
    rcases List.mem_cons.mp hq with rfl | hq
    · exact .inr ⟨l0 _ (.head _), fun r hr => l0 r (.tail _ hr)⟩
    · exact .inl hq
end

/-- what the ledger does not bear, and what it bears but the head, is kept -/
theorem keep_of {h₀ h h' : Heap} {L L' : Addr} {m' : Str → Option Value} {t : Addr × Obj} {news : List (Addr × Obj)} (N : News h₀ L h (t :: news)) (F' : Fr (hid h (t :: news)) L' h' m') (hs : ∀ q ∈ news, h'.get? q.1 = some q.2) :
    ∀ b o, b ≠ t.1 → h.get? b = some o → h'.get? b = some o := by
  intro b o hb e
  by_cases hm : b ∈ (t :: news).map (·.1)
  · obtain ⟨q, hq, rfl⟩ := List.mem_map.mp hm
    rcases List.mem_cons.mp hq with rfl | hq
    · exact absurd rfl hb
    · have := (N q (.tail _ hq)).1
      rw [e] at this
      cases this
      exact hs q hq
  · exact F'.keep b o (hideAll_get _ e hm)

/-- what is new to the ledger was not there -/
theorem fresh_of {h₀ h h' : Heap} {L L' : Addr} {t : Addr × Obj} {news l : List (Addr × Obj)} (N' : News (hid h (t :: news)) L' h' l) (NN : News h₀ L h (t :: news)) (hf : ∀ q ∈ l, q ∈ news ∨ (t.1 < q.1 ∧ ∀ r ∈ news, r.1 < q.1)) : ∀ q ∈ l, q ∈ news ∨ h.get? q.1 = none := by
  intro q hq
  rcases hf q hq with h1 | h1
  · exact .inl h1
  · refine .inr ?_
    cases e : h.get? q.1 with
    | none => rfl
    | some o =>
      have h2 := (N' q hq).2.2
      rw [hideAll_get _ e (fun hm => ?_)] at h2
      · cases h2
      · obtain ⟨r, hr, e2⟩ := List.mem_map.mp hm
        rcases List.mem_cons.mp hr with rfl | hr
        · exact absurd h1.1 (by rw [e2]; exact Nat.lt_irrefl _)
        · exact absurd (h1.2 r hr) (by rw [e2]; exact Nat.lt_irrefl _)

/-- the search's call, its text, the place to begin: None, or a hit at the first dot from there -/
def SearchOk (prog : Program) (w : World) (loose : List Str) (mean : ExcName → Option Value) (mg mb : Str → Option Value) (f : Addr) (sign : Str) (l : List (Addr × Obj)) : Prop :=
  ∀ (A : Around) (s : Shared) (h₀ : Heap) (L : Addr) (m : Str → Option Value) (ps : Array Value) (news : List (Addr × Obj)) (R : Result → Shared → Prop) (chars : Str) (t tj : Tok) (j : Int) (args : List Value),
    Cx w loose mean mg mb h₀ → Fr h₀ L s.heap m → News h₀ L s.heap ((30, tabObj ps) :: news) → (∀ q ∈ news, q.1 ≠ 30) → TabOk ps spec30 news → (∀ q ∈ l, q ∈ news) → A.depth < 800 →
    (args = [.str chars t] ∧ j = 0 ∨ args = [.str chars t, .int j tj]) →
    (Txt.find3 chars sign j < 0 → ∀ h' tk, Fr h₀ L h' m → News h₀ L h' ((30, tabObj ps) :: news) → R (.ok (.ret .none)) { s with heap := h', toks := tk }) →
    (¬ Txt.find3 chars sign j < 0 → ∀ a ps' news' h' tk, Fr h₀ L h' m → News h₀ L h' ((30, tabObj ps') :: news') → (∀ q ∈ news, q ∈ news') → (∀ q ∈ news', q ∈ news ∨ (30 < q.1 ∧ ∀ r ∈ news, r.1 < q.1)) → TabOk ps' spec30 news' →
      HitL prog w loose mean mg mb a (Txt.find3 chars sign j) news' → R (.ok (.ret (.ref a))) { s with heap := h', toks := tk }) →
    codeAny (model prog w) A (.call (.ref f) ⟨args, []⟩) R s
section
variable {prog : Program} {w : World} {loose : List Str} {mean : ExcName → Option Value} {mg mb : Str → Option Value}
theorem SearchOk.mono {f : Addr} {sign : Str} {l l' : List (Addr × Obj)} (x : SearchOk prog w loose mean mg mb f sign l) (h : ∀ q ∈ l, q ∈ l') : SearchOk prog w loose mean mg mb f sign l' :=
  fun A s h₀ L m ps news R chars t tj j args cx F N hn TB hs hd ha k0 k1 => x A s h₀ L m ps news R chars t tj j args cx F N hn TB (fun _ hq => hs _ (h _ hq)) hd ha k0 k1
variable (prog w loose mean mg mb) in
def ProgL (a : Addr) (sign : Str) (l : List (Addr × Obj)) : Prop := ∃ f, FnAttr a "search" f l ∧ SearchOk prog w loose mean mg mb f sign l
theorem ProgL.mono {a : Addr} {sign : Str} {l l' : List (Addr × Obj)} (x : ProgL prog w loose mean mg mb a sign l) (h : ∀ q ∈ l, q ∈ l') : ProgL prog w loose mean mg mb a sign l' :=
  let ⟨f, a, b⟩ := x; ⟨f, a.mono h, b.mono h⟩
end

abbrev spec37 : List (Pos × Str) := [(⟨34, 4, 36, 53⟩, "_law_prog.<locals>.search"), (⟨37, 11, 37, 23⟩, "_law_prog.<locals>.<lambda>")]

section
variable {prog : Program} {w : World} {A : Around} {s : Shared} {h₀ : Heap} {L : Addr} {m mg mb : Str → Option Value} {loose : List Str} {mean : ExcName → Option Value} {R : Result → Shared → Prop}

theorem prog_call {sign : Str} {t : Tok} {ps : Array Value} {news : List (Addr × Obj)} (cx : Cx w loose mean mg mb h₀) (F : Fr h₀ L s.heap m) (N : News h₀ L s.heap ((37, tabObj ps) :: news)) (hn : ∀ p ∈ news, p.1 ≠ 37) (TB : TabOk ps spec37 news) (hdep : A.depth < 900)
    (k : ∀ a ps' news' h' tk, Fr h₀ L h' m → News h₀ L h' ((37, tabObj ps') :: news') → (∀ b o, b ≠ 37 → s.heap.get? b = some o → h'.get? b = some o) → (∀ q ∈ news, q ∈ news') → (∀ q ∈ news', q ∈ news ∨ s.heap.get? q.1 = none) → TabOk ps' spec37 news' → ProgL prog w loose mean mg mb a sign news' →
      R (.ok (.ret (.ref a))) { s with heap := h', toks := tk }) :
    codeAny (model prog w) A (.call (.ref 42) ⟨[.str sign t], []⟩) R s := by
  have ff : (PySem.Challenge.rw_mr0034_01, hd.heap_39) = (PySem.Challenge.rw_mr0034_01, hd.heap_39) := by k_fill; rfl
  clear ff
  w_on
  refine callC F N cx.T.nolimit (cx.X.keeps F.keep _ _ (by k_is)) rfl (codeRec_of (cx.X.keeps F.keep) (by k_is)) (by rw [show recursionLimit = 1000 from rfl]; omega) (BindsTo.of_eq rfl) rfl (by decide +kernel) rfl rfl rfl ?_
  intro L' h₁ tk cells F' N' Y' st l1
  obtain ⟨oc, rfl, hoc⟩ := CellsAre.one Y'
  clear Y'
  have hoc' : oc.data = .cell (some (.str sign t)) := hoc
  clear hoc
  have cx' := cx.keeps st
  obtain ⟨X', T', C1, C2⟩ := cx'
  have lL : 37 < L' := l1 _ (.head _)
  have N1 : News (hid s.heap ((37, tabObj ps) :: news)) L' h₁ ((37, tabObj ps) :: (L' + 1, oc) :: news) := news_swap N'
  have hn1 : ∀ q ∈ (L' + 1, oc) :: news, q.1 ≠ 37 := by
    intro q hq
    rcases List.mem_cons.mp hq with rfl | hq
    · exact Nat.ne_of_gt (Nat.lt_succ_of_lt lL)
    · exact hn q hq
  have TB1 : TabOk ps spec37 ((L' + 1, oc) :: news) := TB.mono fun q hq => .tail _ hq
  clear N'
  have hsp : ∀ pq ∈ spec37, (((34 : Nat) : Int) == pq.1.line && ((4 : Nat) : Int) == pq.1.col) = true → pq.2 = (Str.ofString "_law_prog.<locals>.search") := by decide +kernel
  have hsp2 : ∀ pq ∈ spec37, (((37 : Nat) : Int) == pq.1.line && ((11 : Nat) : Int) == pq.1.col) = true → pq.2 = (Str.ofString "_law_prog.<locals>.<lambda>") := by decide +kernel
  refine id ?_
  walk1
  refine kdv_def rfl rfl rfl (kdv_all1 (wpAny_Constant_int (kdv_all0 (def_any F' N1 hn1 T' C2 rfl TB1 hsp (.head _) rfl rfl ?_))))
  intro f1 td c1 oc1 vs1 t1 ctv1 doc1 ps1 news1 h2 tk2 F2 N2 htd hm1 hd1 hv1 TB2 sub1 fr1 lt1 lt1'
  clear F' N1
  k_steps
  rename Fr _ _ _ _ => F3
  rename News _ _ _ _ => N3
  obtain ⟨of1, hof1, N3⟩ := news_name N3
  refine lam_any F3 (news_swap N3) ?_ T' C2 rfl (TB2.mono fun q hq => .tail _ hq) hsp2 (.tail _ (.head _)) rfl rfl ?_
  · intro q hq
    rcases List.mem_cons.mp hq with rfl | hq
    · exact Nat.ne_of_gt lt1'
    · rcases fr1 q hq with h | h
      · exact hn1 q h
      · exact Nat.ne_of_gt h.1
  intro f2 c2 oc2 vs2 t2 ctv2 ps2 news2 h3 tk3 F4 N4 hm2 hd2 hv2 TB3 sub2 fr2 lt2 lt2'
  clear N3 F3
  k_steps
  rename Fr _ _ _ _ => F5
  rename News _ _ _ _ => N5
  obtain ⟨o2, ho2, N5⟩ := news_name N5
  refine fn_setAttrN F5 N5 ?_ (by rw [ho2]) (by rw [ho2]) (by rw [ho2]) lk_search ?_
  · intro q hq
    rcases List.mem_cons.mp hq with rfl | hq
    · exact Nat.ne_of_lt lt2'
    · exact Nat.ne_of_lt (lt2 q hq)
  intro h4 tk4 d od es ep F6 N6 hod hsk hfind lt6
  clear F5 N5
  dsimp only
  k_steps
  dsimp only
  obtain ⟨F7, N7⟩ := hid_back F N F6 N6
  have hkeep : ∀ b o, b ≠ 37 → s.heap.get? b = some o → h4.get? b = some o := keep_of N F6 fun q hq => (N6 q (.tail _ (.tail _ (.tail _ (sub2 _ (.tail _ (sub1 _ (.tail _ hq)))))))).1
  let news' : List (Addr × Obj) := (f2, { o2 with dict := some d }) :: (d, od) :: news2
  have N8 : News (hid s.heap ((37, tabObj ps) :: news)) L' h4 news' := news_sub N6 fun q hq => by
    rcases List.mem_cons.mp hq with rfl | hq
    · exact .head _
    · rcases List.mem_cons.mp hq with rfl | hq
      · exact .tail _ (.head _)
      · exact .tail _ (.tail _ (.tail _ hq))
  clear F6 N6
  have up2 : ∀ q ∈ news2, q ∈ news' := fun q hq => .tail _ (.tail _ hq)
  have up1 : ∀ q ∈ news1, q ∈ news' := fun q hq => up2 _ (sub2 _ (.tail _ hq))
  have f1_in : (f1, of1) ∈ news' := up2 _ (sub2 _ (.head _))
  have cell_in : (L' + 1, oc) ∈ news' := up1 _ (sub1 _ (.head _))
  have td_in := up1 _ htd
  have code_in := up1 _ hm1
  have SO : SearchOk prog w loose mean mg mb f1 sign news' := by
    clear hkeep N8 F7 N7 k F N TB TB1 TB2 TB3 hsp hsp2 fr1 fr2 lt1 lt2 hn1 hn hfind sub1 sub2 up1 up2 l1 X' T' C1 C2 lt6
    clear_value news'
    intro A s h₀ L m ps news R chars t' tj j args cx F N hn TB hs hdep ha k0 k1
    subst hof1
    refine callP (binds := [("chars", .str chars t'), ("pos", .int j (match args with | [_, _] => tj | _ => tk))]) F N cx.T.nolimit (N _ (.tail _ (hs _ f1_in))).1 rfl ⟨c1, oc1, vs1, t1, rfl, (N _ (.tail _ (hs _ code_in))).1, hd1, hv1⟩ (by rw [show recursionLimit = 1000 from rfl]; omega) ?_ ?_ (by decide) rfl rfl rfl ?_
    · rcases ha with ⟨rfl, rfl⟩ | rfl
      · exact kdv_binds N (.tail _ (hs _ td_in)) rfl rfl rfl
      · exact kdv_binds N (.tail _ (hs _ td_in)) rfl rfl rfl
    · intro y hy
      rcases List.mem_cons.mp hy with rfl | hy
      · rfl
      · rcases List.mem_singleton.mp hy with rfl
        rfl
    intro L' h₁ F' N' st l1 _
    have cx' := cx.keeps st
    obtain ⟨X', T', C1, C2⟩ := id cx'
    iterate 7 walk1
    refine nameX_F N' rfl (.tail _ (hs _ cell_in)) hoc' ?_ rfl rfl (by decide) (by decide)
    k_steps
    · dsimp only
      rename Fr _ _ _ _ => F8
      rename News _ _ _ _ => N8
      obtain ⟨F9, N9⟩ := hid_back F N F8 N8
      exact k0 (by assumption) _ _ F9 N9
    · rename Fr _ _ _ _ => F8
      rename News _ _ _ _ => N8
      refine wpAny_call (hit_call cx' F8 N8 hn TB (by show A.depth + 1 < 900; omega) ?_)
      intro a ps' news2 h2 tk2 F9 N9 sub9 fr9 TB9 H9
      obtain ⟨F10, N10⟩ := hid_back F N F9 N9
      exact k1 (by assumption) a ps' news2 h2 tk2 F10 N10 sub9 fr9 TB9 H9
  refine k f2 ps2 news' h4 tk4 F7 (news_sub N7 ?_) hkeep ?_ ?_ ?_ ⟨f1, ?_, SO⟩
  · intro q hq
    rcases List.mem_cons.mp hq with rfl | hq
    · exact .tail _ (.tail _ (.head _))
    · rcases List.mem_cons.mp hq with rfl | hq
      · exact .head _
      · rcases List.mem_cons.mp hq with rfl | hq
        · exact .tail _ (.head _)
        · exact .tail _ (.tail _ (.tail _ hq))
  · exact fun q hq => up1 _ (sub1 _ (.tail _ hq))
  · refine fresh_of N8 N ?_
    show ∀ q ∈ news', q ∈ news ∨ ((37 : Nat) < q.1 ∧ ∀ r ∈ news, r.1 < q.1)
    have up : ∀ r ∈ news, r.1 < f1 := fun r hr => lt1 _ (sub1 _ (.tail _ hr))
    have hlt12 : f1 < f2 := lt2 _ (sub2 _ (.head _))
    intro q hq
    rcases List.mem_cons.mp hq with rfl | hq
    · exact .inr ⟨lt2', fun r hr => Nat.lt_trans (up r hr) hlt12⟩
    · rcases List.mem_cons.mp hq with rfl | hq
      · exact .inr ⟨lt6 _ (.tail _ (.head _)), fun r hr => Nat.lt_trans (Nat.lt_trans (up r hr) hlt12) (lt6 _ (.head _))⟩
      · rcases fr2 q hq with h | h
        · rcases List.mem_cons.mp h with rfl | h
          · exact .inr ⟨lt1', up⟩
          · rcases fr1 q h with h | h
            · rcases List.mem_cons.mp h with rfl | h
              · exact .inr ⟨Nat.lt_succ_of_lt lL, fun r hr => Nat.lt_succ_of_lt (l1 r (.tail _ hr))⟩
              · exact .inl h
            · exact .inr ⟨h.1, fun r hr => h.2 r (.tail _ hr)⟩
        · exact .inr ⟨h.1, fun r hr => h.2 r (.tail _ (sub1 _ (.tail _ hr)))⟩
  · exact TB3.mono up2
  · exact ⟨_, _, d, od, es, ep, of1, _, .head _, by rw [ho2], by rw [ho2], rfl, .tail _ (.head _), hod, hsk, hfind, f1_in, by rw [hof1]⟩
end
end Mine
end

section
open PySem PySem.W PyProof.Rows PySem.Calls
set_option maxRecDepth 100000
set_option maxHeartbeats 4000000
namespace Mine

def IsFn (f : Addr) (h : Heap) : Prop := ∃ o fd, h.get? f = some o ∧ o.data = .func fd
theorem keeps_F {M : Model} {f : Addr} (h : Heap) (X : IsFn f h) : ∃ k, (k = Keeper.frame ∨ k = Keeper.machine ∨ k = Keeper.boundFrame) ∧ Looks M h (keeperOf (.ref f)) k := by
  obtain ⟨⟨c, d, dt, sl⟩, fd, ho, hd⟩ := X
  dsimp only at hd
  subst hd
  exact ⟨.frame, .inl rfl, (Looks.ld (part := none) ho).andThen .now⟩

section
variable {M : Model} {A : Around} {E : Value → Shared → Prop} {s : Shared} {env : Env} {pos : Pos} {f : Addr} {first : List Value} {Q : Value → Shared → Prop}
theorem callWith_F {e : Expr} {rest : List Expr} (h : wpAny M A (spliced (backTo pos (starEach (e :: rest) env))) (fun vs s₁ => IsFn f s₁.heap ∧ wpAny M A (call (.ref f) (first ++ vs)) Q E s₁) E s)
    (he : starEach (e :: rest) env = (false, eval e env) :: starEach rest env := by rfl) (hplain : (backTo pos (starEach rest env)).any (·.1) = false := by rfl) :
    wpAny M A (callWith pos (.ref f) first (backTo pos (starEach (e :: rest) env)) []) Q E s := by
  rw [he] at h ⊢
  exact callWith_of (by show ((false || (backTo pos (starEach rest env)).any (·.1)) || false) = false; rw [hplain]; rfl) keeps_F (evalArgs_plain h)
theorem callWith_F0 (X : IsFn f s.heap) (h : wpAny M A (call (.ref f) (first ++ [])) Q E s) : wpAny M A (callWith pos (.ref f) first (backTo pos (starEach [] env)) []) Q E s :=
  callWith_of rfl keeps_F (evalArgs_nil3 ⟨X, h⟩)
end

section
variable {prog : Program} {w : World} {A : Around} {E : Value → Shared → Prop} {s : Shared} {h₀ : Heap} {L a f : Addr} {name : Str} {news l : List (Addr × Obj)}
theorem fn_getMethodN {Q : Value × List Value → Shared → Prop} {pl : Sem Bool} (N : News h₀ L s.heap news) (X : FnAttr a name f l) (hl : ∀ q ∈ l, q ∈ news) (hnm : typeLookup (.type "function") name = pure none)
    (h : ∀ tk, Q (.ref f, []) { s with toks := tk }) : wpAny (model prog w) A (getMethod (.ref a) name pl) Q E s := by
  obtain ⟨oa, fd, d, od, es, ep, of, fd', h1, h2, h3, h4, h5, h6, h7, h8, h9, h10⟩ := X
  exact fn_getMethod (N _ (hl _ h1)).1 h2 h3 h4 ⟨od, es, ep, (N _ (hl _ h5)).1, h6, h7, h8⟩ (by simp) hnm rfl h
theorem isFn_of (N : News h₀ L s.heap news) (X : FnAttr a name f l) (hl : ∀ q ∈ l, q ∈ news) : IsFn f s.heap := by
  obtain ⟨oa, fd, d, od, es, ep, of, fd', h1, h2, h3, h4, h5, h6, h7, h8, h9, h10⟩ := X
  exact ⟨of, fd', (N _ (hl _ h9)).1, h10⟩
theorem fn_truthyN {Q : Bool → Shared → Prop} (N : News h₀ L s.heap news) (X : FnAttr a name f l) (hl : ∀ q ∈ l, q ∈ news) (h : Q true s) : wpAny (model prog w) A (truthy (.ref a)) Q E s := by
  obtain ⟨oa, fd, d, od, es, ep, of, fd', h1, h2, h3, h4, h5, h6, h7, h8, h9, h10⟩ := X
  exact fn_truthy (N _ (hl _ h1)).1 h2 h
end

section
variable {prog : Program} {w : World} {A : Around} {s : Shared} {h₀ : Heap} {L : Addr} {m mg mb : Str → Option Value} {loose : List Str} {mean : ExcName → Option Value} {R : Result → Shared → Prop}

theorem from_succ {n p : Nat} (h : p < n) : fromIndex n ((p : Int) + 1) = p + 1 := by
  unfold fromIndex
  rw [if_neg (by omega)]
  omega
/-- search_reverse: the last hit below col, or None -/
theorem sr_call {chars : Str} {c : Nat} {col : Int} {a : Addr} {t tc : Tok} {ps : Array Value} {news l : List (Addr × Obj)} (cx : Cx w loose mean mg mb h₀) (F : Fr h₀ L s.heap m) (N : News h₀ L s.heap ((30, tabObj ps) :: news)) (hn : ∀ p ∈ news, p.1 ≠ 30)
    (TB : TabOk ps spec30 news) (P : ProgL prog w loose mean mg mb a ⟨#[c]⟩ l) (hl : ∀ q ∈ l, q ∈ news) (hdep : A.depth < 700) (hh : A.handled = none)
    (k0 : (∀ p, p < chars.length → chars.cps.getD p 0 = c → ¬ (p : Int) < col) → ∀ ps' news' h' tk, Fr h₀ L h' m → News h₀ L h' ((30, tabObj ps') :: news') → (∀ b o, b ≠ 30 → s.heap.get? b = some o → h'.get? b = some o) → (∀ q ∈ news, q ∈ news') → (∀ q ∈ news', q ∈ news ∨ s.heap.get? q.1 = none) → TabOk ps' spec30 news' →
      R (.ok (.ret .none)) { s with heap := h', toks := tk })
    (k1 : ∀ p : Nat, p < chars.length → chars.cps.getD p 0 = c → (p : Int) < col → (∀ q, q < chars.length → chars.cps.getD q 0 = c → (q : Int) < col → q ≤ p) →
      ∀ a ps' news' h' tk, Fr h₀ L h' m → News h₀ L h' ((30, tabObj ps') :: news') → (∀ b o, b ≠ 30 → s.heap.get? b = some o → h'.get? b = some o) → (∀ q ∈ news, q ∈ news') → (∀ q ∈ news', q ∈ news ∨ s.heap.get? q.1 = none) → TabOk ps' spec30 news' →
      HitL prog w loose mean mg mb a p news' → R (.ok (.ret (.ref a))) { s with heap := h', toks := tk }) :
    codeAny (model prog w) A (.call (.ref 21) ⟨[.ref a, .str chars t, .int col tc], []⟩) R s := by
  have ff : (PySem.Challenge.rw_mr0034_01, hd.heap_39) = (PySem.Challenge.rw_mr0034_01, hd.heap_39) := by k_fill; rfl
  clear ff
  w_on
  refine callP F N cx.T.nolimit (cx.X.keeps F.keep _ _ (by k_is)) rfl (codeRec_of (cx.X.keeps F.keep) (by k_is)) (by rw [show recursionLimit = 1000 from rfl]; omega) (BindsTo.of_eq rfl) (locs rfl) (by decide) rfl rfl rfl ?_
  intro L' h₁ F' N' st l1 _
  have cx' := cx.keeps st
  obtain ⟨X', T', C1, C2⟩ := id cx'
  obtain ⟨fs, PA, PS⟩ := P
  refine id ?_
  have hl' : ∀ q ∈ l, q ∈ (30, tabObj ps) :: news := fun q hq => .tail _ (hl q hq)
  iterate 4 walk1
  refine fn_getMethodN N' PA hl' lk_search fun tk1 => ?_
  refine callWith_F ?_
  iterate 3 walk1
  refine ⟨isFn_of N' PA hl', ?_⟩
  refine wpAny_call (PS _ _ _ _ _ _ _ _ chars _ 0 0 _ cx' F' N' hn TB hl (by show A.depth + 1 < 800; omega) (.inl ⟨rfl, rfl⟩) ?_ ?_)
  · intro hneg h2 tk2 F2 N2
    clear F' N'
    dsimp only
    k_steps
    dsimp only
    rename Fr _ _ _ _ => F3
    rename News _ _ _ _ => N3
    obtain ⟨F4, N4⟩ := hid_back F N F3 N3
    refine k0 (fun p hp hc => ?_) ps news _ _ F4 N4 (keep_of N F3 fun q hq => (N3 q (.tail _ hq)).1) (fun q hq => hq) (fun q hq => .inl hq) TB
    rcases StrLaws.find3_spec chars c 0 with ⟨_, h⟩ | ⟨k, h, _⟩
    · exact absurd hc (h p (by rw [show fromIndex chars.length 0 = 0 from by simp [fromIndex]]; omega) hp)
    · rw [h] at hneg; omega
  · intro hpos a1 ps1 news1 h2 tk2 F2 N2 sub1 fr1 TB1 H1
    clear F' N'
    dsimp only
    obtain ⟨f1, HA1, HS1⟩ := id H1
    iterate 7 walk1
    rename News _ _ _ _ => N3
    refine fn_truthyN N3 HA1 (fun q hq => .tail _ hq) ?_
    iterate 10 walk1
    rename News _ _ _ _ => N3
    rename Fr _ _ _ _ => F3
    refine fn_getMethodN N3 HA1 (fun q hq => .tail _ hq) lk_span fun tk3 => ?_
    refine callWith_F0 (isFn_of N3 HA1 (fun q hq => .tail _ hq)) ?_
    refine wpAny_call (HS1 _ _ _ _ _ _ _ cx' F3 N3 (fun q hq => .tail _ hq) (by show A.depth + 1 < 900; omega) ?_)
    intro h4 T4 tk4 t4 t4' F4 N4 l4
    clear F3 N3
    dsimp only
    refine unpackN_ F4 N4 (News.isTup N4 (.head _)) hh rfl rfl ?_
    intro h5 F5 N5
    clear F4 N4
    iterate 9 walk1
    rename Fr _ _ _ _ => F6
    rename News _ _ _ _ => N6
    obtain ⟨p1, hp1, hlt1, hc1, hbef1⟩ : ∃ p1 : Nat, Txt.find3 chars ⟨#[c]⟩ 0 = (p1 : Int) ∧ p1 < chars.length ∧ chars.cps.getD p1 0 = c ∧ ∀ q, q < p1 → chars.cps.getD q 0 ≠ c := by
      rcases StrLaws.find3_spec chars c 0 with ⟨h, _⟩ | ⟨k, h, _, h2, h3, h4⟩
      · rw [h] at hpos; omega
      · exact ⟨k, h, h2, h3, fun q hq => h4 q (by rw [show fromIndex chars.length 0 = 0 from by simp [fromIndex]]; omega) hq⟩
    rw [hp1] at H1 HS1 F6 N6
    clear hp1 hpos
    let G : Heap := hid s.heap ((30, tabObj ps) :: news)
    let J : Nat → (Str → Option Value) → List (Addr × Obj) → Prop := fun n m₁ news₁ => ∃ (ps' : Array Value) (nw : List (Addr × Obj)) (am : Addr) (p : Nat) (ti tj : Tok) (fv : Value),
      n = chars.length - p ∧ news₁ = (30, tabObj ps') :: nw ∧ (∀ q ∈ news, q ∈ nw) ∧ (∀ q ∈ nw, q ∈ news ∨ (30 < q.1 ∧ ∀ r ∈ news, r.1 < q.1)) ∧ TabOk ps' spec30 nw ∧
      m₁ = (fun y => if y = Str.ofString "j" then some (.int ((p : Int) + 1) tj) else if y = Str.ofString "i" then some (.int p ti) else if y = Str.ofString "found" then some fv else if y = Str.ofString "m" then some (.ref am) else List.lookup y [(Str.ofString "col", .int col tc), (Str.ofString "chars", .str chars t), (Str.ofString "prog", .ref a)]) ∧
      HitL prog w loose mean mg mb am p nw ∧ p < chars.length ∧ chars.cps.getD p 0 = c ∧
      ((fv = .none ∧ ∀ q, q < p → chars.cps.getD q 0 = c → False) ∨ ∃ af pf, fv = .ref af ∧ HitL prog w loose mean mg mb af (pf : Nat) nw ∧ pf < chars.length ∧ chars.cps.getD pf 0 = c ∧ (pf : Int) < col ∧ ∀ q, q < p → chars.cps.getD q 0 = c → q ≤ pf)
    refine While_inv2 J (n₀ := chars.length - p1) F6 (news_sub N6 (l' := (30, tabObj ps1) :: news1) fun q hq => .tail _ hq) ⟨ps1, news1, a1, p1, t4, t4', .none, rfl, rfl, sub1, fr1, TB1, rfl, H1, hlt1, hc1, .inl ⟨rfl, fun q hq hc => hbef1 q hq hc⟩⟩ ?_
    clear F6 N6 H1 HS1 HA1 TB1 fr1 sub1 hbef1 hc1 hlt1
    rintro n m₁ news₁ h₁ tk₁ F₁ N₁ ⟨ps', nw, am, p, ti, tj, fv, rfl, rfl, sub, fr, TBx, rfl, HM, hlt, hc, hf⟩
    iterate 7 walk1
    by_cases hlc : (p : Int) < col
    · rw [if_pos (decide_eq_true hlc)]
      iterate 7 walk1
      iterate 13 walk1
      rw [if_neg (by simp; omega)]
      iterate 6 walk1
      rename Fr _ _ _ _ => F7
      rename News _ _ _ _ => N7
      refine fn_getMethodN N7 PA (fun q hq => .tail _ (sub _ (hl q hq))) lk_search fun tk7 => ?_
      refine callWith_F ?_
      iterate 5 walk1
      refine ⟨isFn_of N7 PA (fun q hq => .tail _ (sub _ (hl q hq))), ?_⟩
      refine wpAny_call (PS _ _ _ _ _ _ _ _ chars _ _ ((p : Int) + 1) _ cx' F7 N7 ?_ TBx (fun q hq => sub _ (hl q hq)) (by show A.depth + 1 < 800; omega) (.inr rfl) ?_ ?_)
      · intro q hq
        rcases fr q hq with h | h
        · exact hn q h
        · exact Nat.ne_of_gt h.1
      · intro hneg h8 tk8 F8 N8
        clear F7 N7
        dsimp only
        k_steps
        rename Fr _ _ _ _ => F9
        rename News _ _ _ _ => N9
        dsimp only [WhileStep2]
        iterate 3 walk1
        dsimp only
        obtain ⟨F10, N10⟩ := hid_back F N F9 N9
        refine k1 p hlt hc hlc (fun q hq hqc hqcol => ?_) am ps' nw _ _ F10 N10 (keep_of N F9 fun q hq => (N9 q (.tail _ (sub q hq))).1) sub (fresh_of (news_sub N9 fun q hq => .tail _ hq) N fr) TBx HM
        rcases StrLaws.find3_spec chars c ((p : Int) + 1) with ⟨_, h⟩ | ⟨k, h, _⟩
        · refine Nat.le_of_not_lt fun hpq => h q ?_ hq hqc
          rw [from_succ hlt]; omega
        · rw [h] at hneg; omega
      · intro hpos a2 ps2 news2 h8 tk8 F8 N8 sub2 fr2 TB2 H2
        clear F7 N7
        dsimp only
        obtain ⟨f2, HA2, HS2⟩ := id H2
        iterate 7 walk1
        rename News _ _ _ _ => N9
        refine fn_truthyN N9 HA2 (fun q hq => .tail _ hq) ?_
        iterate 6 walk1
        rename News _ _ _ _ => N9
        rename Fr _ _ _ _ => F9
        refine fn_getMethodN N9 HA2 (fun q hq => .tail _ hq) lk_span fun tk9 => ?_
        refine callWith_F0 (isFn_of N9 HA2 (fun q hq => .tail _ hq)) ?_
        refine wpAny_call (HS2 _ _ _ _ _ _ _ cx' F9 N9 (fun q hq => .tail _ hq) (by show A.depth + 1 < 900; omega) ?_)
        intro h10 T10 tk10 t10 t10' F10 N10 l10
        clear F9 N9
        dsimp only
        refine unpackN_ F10 N10 (News.isTup N10 (.head _)) hh rfl rfl ?_
        intro h11 F11 N11
        clear F10 N10
        k_steps
        rename News _ _ _ _ => N12
        rename Fr _ _ _ _ => F12
        obtain ⟨p2, hp2, hge2, hlt2, hc2, hbef2⟩ : ∃ p2 : Nat, Txt.find3 chars ⟨#[c]⟩ ((p : Int) + 1) = (p2 : Int) ∧ p + 1 ≤ p2 ∧ p2 < chars.length ∧ chars.cps.getD p2 0 = c ∧ ∀ q, p + 1 ≤ q → q < p2 → chars.cps.getD q 0 ≠ c := by
          rcases StrLaws.find3_spec chars c ((p : Int) + 1) with ⟨h, _⟩ | ⟨k, h, h1, h2, h3, h4⟩
          · rw [h] at hpos; omega
          · rw [from_succ hlt] at h1 h4
            exact ⟨k, h, h1, h2, h3, h4⟩
        rw [hp2] at H2 F12 N12
        have fr3 : ∀ q ∈ news2, q ∈ news ∨ (30 < q.1 ∧ ∀ r ∈ news, r.1 < q.1) := fun q hq => by
          rcases fr2 q hq with h | h
          · exact fr q h
          · exact .inr ⟨h.1, fun r hr => h.2 r (sub r hr)⟩
        refine ⟨_, _, _, (30, tabObj ps2) :: news2, chars.length - p2, rfl, F12, news_sub N12 (fun q hq => .tail _ hq), by omega, ps2, news2, a2, p2, t10, t10', .ref am, rfl, rfl, fun q hq => sub2 q (sub q hq), fr3, TB2, ?_, H2, hlt2, hc2,
          .inr ⟨am, p, rfl, HM.mono sub2, hlt, hc, hlc, fun q hq hqc => Nat.le_of_not_lt fun hpq => hbef2 q hpq hq hqc⟩⟩
        funext y
        by_cases y1 : y = Str.ofString "j"
        · simp [y1]
        by_cases y2 : y = Str.ofString "i"
        · simp [y1, y2]
        by_cases y3 : y = Str.ofString "m"
        · subst y3; rfl
        by_cases y4 : y = Str.ofString "found"
        · subst y4; rfl
        simp [y1, y2, y3, y4]
    · rw [if_neg (by simpa using hlc)]
      dsimp only
      iterate 3 walk1
      dsimp only
      rcases hf with ⟨rfl, hno⟩ | ⟨af, pf, rfl, HF, hfl, hfc, hfcol, hfmax⟩
      · obtain ⟨F4, N4⟩ := hid_back F N F₁ N₁
        refine k0 (fun q hq hqc hqcol => hno q (by omega) hqc) ps' nw _ _ F4 N4 (keep_of N F₁ fun q hq => (N₁ q (.tail _ (sub q hq))).1) sub (fresh_of (news_sub N₁ fun q hq => .tail _ hq) N fr) TBx
      · obtain ⟨F4, N4⟩ := hid_back F N F₁ N₁
        exact k1 pf hfl hfc hfcol (fun q hq hqc hqcol => hfmax q (by omega) hqc) af ps' nw _ _ F4 N4 (keep_of N F₁ fun q hq => (N₁ q (.tail _ (sub q hq))).1) sub (fresh_of (news_sub N₁ fun q hq => .tail _ hq) N fr) TBx HF
end
end Mine
end

section
open PySem PySem.W PyProof.Rows PySem.Calls
set_option maxRecDepth 100000
set_option maxHeartbeats 4000000
namespace Mine

theorem paired_get {α β : Type} {F : α → β → Prop} : ∀ {l₁ : List α} {l₂ : List β}, Paired F l₁ l₂ → ∀ (i : Nat) (y : β), l₂[i]? = some y → ∃ v, l₁[i]? = some v ∧ F v y
  | _, _, .nil, i, y, h => by simp at h
  | _, _, .cons hF r, 0, y, h => by simp at h; subst h; exact ⟨_, by simp, hF⟩
  | _, _, .cons hF r, i + 1, y, h => by
    obtain ⟨v, a, b⟩ := paired_get r i y (by simpa using h)
    exact ⟨v, by simpa using a, b⟩

section
variable {prog : Program} {w : World} {A : Around} {E : Value → Shared → Prop} {s : Shared} {env : Env} {h₀ : Heap} {L : Addr} {m : Str → Option Value} {news : List (Addr × Obj)}

/-- a for over an iterator of the ledger: an invariant over the frame's map and the rest of the ledger -/
theorem for_gen {target : Expr} {body : List Stmt} {I : Addr} {fp : List Addr} {n : Nat} {P : Nat → Value → Prop} {St : Nat → Heap → Prop} {Q : Flow → Shared → Prop} {oI : Obj} (W : Walks prog w A I fp [I] n P St)
    (hst : St 0 s.heap) (F : Fr h₀ L s.heap m) (N : News h₀ L s.heap ((I, oI) :: news)) (hIn : ∀ p ∈ news, p.1 ≠ I)
    (J : Nat → (Str → Option Value) → List (Addr × Obj) → Prop) (h0 : J 0 m news) (hE : PassesOwn (model prog w) A env E)
    (live : ∀ i h, St i h → ∃ o, h.get? I = some o)
    (turn : ∀ i v m₁ news₁ h tk oI, i < n → P i v → J i m₁ news₁ → (∀ p ∈ news₁, p.1 ≠ I) → Fr h₀ L h m₁ → News h₀ L h ((I, oI) :: news₁) →
      wpAny (model prog w) A (assign target env v) (fun _ s₂ => wpAny (model prog w) A (execs body env) (fun f s₃ => match f with
        | .ret v => Q (.ret v) s₃
        | .brk => Q .next s₃
        | _ => ∃ h' tk' m₂ news₂, s₃ = { s with heap := h', toks := tk' } ∧ Fr h₀ L h' m₂ ∧ News h₀ L h' ((I, oI) :: news₂) ∧ (∀ p ∈ news₂, p.1 ≠ I) ∧ (∀ b ∈ fp, b ≠ I → ∀ o, h.get? b = some o → h'.get? b = some o) ∧ J (i + 1) m₂ news₂) E s₂) E { s with heap := h, toks := tk })
    (done : ∀ h tk m₁ news₁, J n m₁ news₁ → Fr h₀ L h m₁ → News h₀ L h news₁ → Q .next { s with heap := h, toks := tk })
    (ht : ∀ v, letOwnedTupleGo target (.ref I) v = pure ()) :
    codeAny (model prog w) A (.forLoop target (.ref I) body [] env) (fun r s' => match r with | .ok f => Q f s' | .error e => cameBackBy (model prog w) A env E e s') s := by
  have hIL := (N _ (.head _)).2.1
  have hI0 := (N _ (.head _)).2.2
  refine codeAny_forLoop (R := fun r s' => match r with | .ok f => Q f s' | .error e => cameBackBy (model prog w) A env E e s')
    (fun k s' => ∃ h' tk m' news' i, s' = { s with heap := h', toks := tk } ∧ St i h' ∧ Fr h₀ L h' m' ∧ News h₀ L h' news' ∧ (∀ p ∈ news', p.1 ≠ I) ∧ J i m' news' ∧ i ≤ n ∧ k = n + 1 - i) ?_ (n + 1)
    ⟨s.heap, s.toks, m, news, 0, rfl, hst, F, news_sub N fun q hq => .tail _ hq, hIn, h0, Nat.zero_le _, rfl⟩ ht
  rintro k s' ⟨h', tk, m', news', i, rfl, hst', F', N', hnw', hJ, hi, rfl⟩
  have next : ∀ h₁ : Heap, (∀ b o, b ∉ [I] → h'.get? b = some o → h₁.get? b = some o) → Fr h₀ L h₁ m' ∧ News h₀ L h₁ news' := fun h₁ hk₁ =>
    ⟨⟨F'.ns.at' fun o e => hk₁ _ o (by simpa using Ne.symm hIL) e, fun b o e => hk₁ b o (by intro q; rw [List.mem_singleton.mp q, hI0] at e; cases e) (F'.keep b o e), F'.above⟩,
      fun p hp => ⟨hk₁ _ _ (by simpa using hnw' p hp) (N' p hp).1, (N' p hp).2⟩⟩
  by_cases hlt : i < n
  · refine W.item i _ _ _ hlt hst' fun v h₁ tk₁ hP hst₁ hk₁ => ?_
    obtain ⟨F₁, N₁⟩ := next h₁ hk₁
    obtain ⟨oI', hoI'⟩ := live _ _ hst₁
    have N₂ : News h₀ L h₁ ((I, oI') :: news') := fun p hp => by
      rcases List.mem_cons.mp hp with rfl | hp
      · exact ⟨hoI', hIL, hI0⟩
      · exact N₁ p hp
    refine wpAny_passesOwn hE (wpAny_mono (turn i v m' news' h₁ tk₁ oI' hlt hP hJ hnw' F₁ N₂) (fun _ s₂ h₂ => wpAny_passesOwn hE (wpAny_mono h₂ (fun f s₃ h₃ => ?_) fun _ _ e => e)) fun _ _ e => e)
    have fin : (∃ h' tk' m₂ news₂, s₃ = { s with heap := h', toks := tk' } ∧ Fr h₀ L h' m₂ ∧ News h₀ L h' ((I, oI') :: news₂) ∧ (∀ p ∈ news₂, p.1 ≠ I) ∧ (∀ b ∈ fp, b ≠ I → ∀ o, h₁.get? b = some o → h'.get? b = some o) ∧ J (i + 1) m₂ news₂) →
        ∃ k', k' < n + 1 - i ∧ ∃ h' tk m' news' i, s₃ = { s with heap := h', toks := tk } ∧ St i h' ∧ Fr h₀ L h' m' ∧ News h₀ L h' news' ∧ (∀ p ∈ news', p.1 ≠ I) ∧ J i m' news' ∧ i ≤ n ∧ k' = n + 1 - i := by
      rintro ⟨h4, tk₃, m₃, news₃, rfl, F₃, N₃, hn₃, hfp, J₃⟩
      refine ⟨n + 1 - (i + 1), by omega, h4, tk₃, m₃, news₃, i + 1, rfl, ?_, F₃, news_sub N₃ fun q hq => .tail _ hq, hn₃, J₃, hlt, rfl⟩
      refine W.frame _ _ _ hst₁ fun b hb o e => ?_
      by_cases hbI : b = I
      · subst hbI; rw [hoI'] at e; cases e; exact (N₃ _ (.head _)).1
      · exact hfp b hb hbI o e
    cases f with
    | ret v => exact h₃
    | brk => exact h₃
    | next => exact fin h₃
    | cont => exact fin h₃
  · have hin : i = n := by omega
    subst hin
    refine W.done _ _ _ hst' fun h₁ tk₁ hk₁ => wpAny_execs_nil ?_
    obtain ⟨F₁, N₁⟩ := next h₁ hk₁
    exact done h₁ tk₁ m' news' hJ F₁ N₁

theorem iter_push {o : Obj} (F : Fr h₀ L s.heap m) (N : News h₀ L s.heap news) (hf : o.isFreed = false := by rfl) :
    Fr h₀ L (s.heap.push o) m ∧ News h₀ L (s.heap.push o) ((s.heap.objs.size, o) :: news) ∧ ∀ p ∈ news, p.1 ≠ s.heap.objs.size :=
  ⟨F.push o, News.push F N o hf, fun p hp => Nat.ne_of_lt (Heap.lt_size (N p hp).1)⟩

/-- a list comprehension over range(n), without a test; its elements make nothing but new things -/
theorem comp_range {elt iter : Expr} {x : Str} {px : Pos} {scope : Scope} {cl : List (Str × Addr)} {pos : Pos} {Q : Value → Shared → Prop} {n : Nat} (Fx : Value → Value → Prop) (FF : Fr h₀ L s.heap m) (NN : News h₀ L s.heap news) (hh : A.handled = none) (hn : n ≤ 1000)
    (hclos : closureFor scope env = pure cl) (hcell : ∀ y ∈ scope.names, y.2 ≠ .cell) (hkind : scope.kind = .function)
    (hnames : ∀ y ∈ scope.names, y.2 = .local → scope.names.lookup y.1 = some .local) (hx : scope.names.lookup x = some .local)
    (hs : ∀ x, foldedSetIterable iter env x = pure x)
    (hit : wpAny (model prog w) A (eval iter env) (fun xv s₁ => ∃ r t u v h₁ tk₁, xv = .ref r ∧ s₁ = { s with heap := h₁, toks := tk₁ } ∧ IsRange h₁ r 0 n 1 t u v ∧ Fr h₀ L h₁ m ∧ News h₀ L h₁ news) E s)
    (helt : ∀ C (i : Nat) t s₃ m₃ E', s₃.heap.Ns C m₃ → m₃ x = some (.int i t) → (∀ q ∈ news, s₃.heap.get? q.1 = some q.2) → (∀ b o, h₀.get? b = some o → s₃.heap.get? b = some o) →
      wpAny (model prog w) A (eval elt (compEnvC scope cl C env)) (fun y s₄ => Fx (.int i t) y ∧ Keeps s₃ s₄) E' s₃)
    (h : ∀ D h' tk ys k, Fr h₀ L h' m → News h₀ L h' ((D, listOf ys k) :: news) → (∀ q ∈ news, q.1 ≠ D) → ys.size = n → (∀ i y, ys.toList[i]? = some y → ∃ t, Fx (.int (i : Nat) t) y) → Q (.ref D) { s with heap := h', toks := tk }) :
    wpAny (model prog w) A (eval (.ListComp elt [⟨.Name x px, iter, [], 0⟩] scope pos) env) Q E s := by
  refine wpAny_ListComp_free (fun _ => true) Fx hclos hcell hkind hnames hx (wpAny_mono hit (fun xv s₁ h₁ => ?_) fun _ _ e => e) hs
  obtain ⟨r, t, u, v, h₁, tk₁, rfl, rfl, hr, F₁, N₁⟩ := h₁
  have hsz : Builtin.Range.rangeSize 0 n 1 = n := by unfold Builtin.Range.rangeSize; simp; omega
  have hsm : Builtin.Range.small 0 n 1 = true := by
    unfold Builtin.Range.small
    rw [hsz]
    simp [Builtin.Range.rangeFitsLong]
    omega
  refine wpAny_pyIter_range hr hsm ?_
  rw [hsz]
  obtain ⟨F₂, N₂, hne⟩ := iter_push (o := { cls := .type "range_iterator", data := .fields #[rawInt 0, rawInt n, rawInt 1] }) (s := { s with heap := h₁, toks := tk₁ }) F₁ N₁
  refine ⟨_, _, _, n, _, _, rfl, Walks.range hh _ 0 1 n, by rw [sizeLine_eq]; omega, by simpa using Heap.get?_push_size _ rfl, by simp, ⟨?_, ?_⟩, ?_⟩
  · intro C i v s₃ m₃ E' _ _ _ _ _ _
    exact wpAny_pure ⟨rfl, ⟨_, _, rfl, fun _ _ e => e⟩⟩
  · intro C i v s₃ m₃ E' hC hP _ hns hm hk _
    obtain ⟨t', rfl⟩ := hP
    have e : (0 : Int) + (i : Nat) * 1 = (i : Nat) := by omega
    rw [e] at hm ⊢
    exact helt C i t' s₃ m₃ E' hns hm (fun q hq => hk _ _ (by simpa using hne q hq) (N₂ _ (.tail _ hq)).1) (fun b o e => hk b o (by intro q; rw [List.mem_singleton.mp q] at e; exact absurd (Heap.lt_size (F₁.keep _ _ e)) (Nat.lt_irrefl _)) (F₂.keep b o e))
  · intro D h' tk ys vs hD hl hpl hlen hP hpair hk
    have hf : vs.filter (fun _ => true) = vs := List.filter_eq_self.mpr fun _ _ => rfl
    rw [hf] at hpair
    obtain ⟨kk, hpl⟩ := hpl
    have hkeep : ∀ b o, h₁.get? b = some o → h'.get? b = some o := fun b o e => hk b o (by intro q; rw [List.mem_singleton.mp q] at e; exact absurd (Heap.lt_size e) (Nat.lt_irrefl _)) (Heap.get?_push_of_some _ e)
    have hD1 : ∀ b o, h₁.get? b = some o → b ≠ D := fun b o e q => by
      have e2 := Heap.get?_push_of_some { cls := .type "range_iterator", data := .fields #[rawInt 0, rawInt n, rawInt 1] } e
      rw [q, hD] at e2; cases e2
    refine h D h' tk ys kk ⟨F₁.ns.keeps hkeep, fun b o e => hkeep b o (F₁.keep b o e), F₁.above⟩ (fun p hp => ?_) (fun q hq => hD1 _ _ (N₁ q hq).1) ?_ ?_
    · rcases List.mem_cons.mp hp with rfl | hp
      · refine ⟨hpl, fun q => ?_, ?_⟩
        · obtain ⟨oL, _, _, hL, _⟩ := F₁.ns
          exact hD1 _ _ hL q.symm
        · cases q : h₀.get? D with
          | none => rfl
          | some o => exact absurd rfl (hD1 _ _ (F₁.keep _ _ q))
      · exact ⟨hkeep _ _ (N₁ p hp).1, (N₁ p hp).2⟩
    · rw [← Array.length_toList, ← hpair.length, hlen]
    · intro i y hy
      obtain ⟨v, hv, hF⟩ := paired_get hpair i y hy
      obtain ⟨t', rfl⟩ := hP i v hv
      refine ⟨t', ?_⟩
      have e : (0 : Int) + (i : Nat) * 1 = (i : Nat) := by omega
      rw [e] at hF
      exact hF
end
end Mine
end

section
open PySem PySem.W PyProof.Rows PySem.Calls
set_option maxRecDepth 100000
set_option maxHeartbeats 4000000
namespace Mine

/-- the last free stall below col -/
def lastFree (n : Nat) (pk : List (Option Nat)) (col : Int) : Option Nat := ((List.range n).filter fun p => !pk.contains (some p) && decide ((p : Int) < col)).getLast?
/-- who gets what, in the order of coming -/
def parkF (n : Nat) (ws : List Int) : List (Option Nat) := ws.foldl (fun pk w => pk ++ [lastFree n pk (Int.fmod (w + 1) ((n : Int) + 1))]) []
def encO : Option Nat → PyData
  | none => .none
  | some p => .int p

theorem any_enc (pk : List (Option Nat)) (j : Nat) : (pk.map encO).any (datHitsInt j) = pk.contains (some j) := by
  induction pk with
  | nil => rfl
  | cons o r ih =>
    rw [List.map_cons, List.any_cons, ih, List.contains_cons]
    cases o with
    | none => rfl
    | some p =>
      show (((p : Int) == (j : Int)) || _) = _
      congr 1
      by_cases h : p = j
      · subst h; simp
      · rw [beq_eq_false_iff_ne.mpr (by omega)]
        symm
        rw [beq_eq_false_iff_ne]
        intro q; exact h (Option.some.inj q).symm
theorem strs_of (f : Nat → Str) : ∀ (l : List Value) (k : Nat), (∀ (i : Nat) (y : Value), l[i]? = some y → ∃ t, y = Value.str (f (k + i)) t) → StrsAre l ((List.range' k l.length).map f)
  | [], _, _ => .nil
  | v :: r, k, h => by
    obtain ⟨t, rfl⟩ := h 0 v (by simp)
    rw [List.length_cons, List.range'_succ, List.map_cons]
    exact .cons _ t (strs_of f r (k + 1) fun i y hy => by
      obtain ⟨t, e⟩ := h (i + 1) y (by simpa using hy)
      exact ⟨t, by rw [e]; congr 2; omega⟩)
theorem join_signs : ∀ cs : List Nat, Str.join ⟨#[]⟩ (cs.map fun c => (⟨#[c]⟩ : Str)) = ⟨cs.toArray⟩
  | [] => rfl
  | [c] => rfl
  | c :: d :: r => by
    have ih := join_signs (d :: r)
    show (⟨#[c]⟩ : Str) ++ ⟨#[]⟩ ++ Str.join ⟨#[]⟩ ((d :: r).map fun c => (⟨#[c]⟩ : Str)) = _
    rw [ih]
    apply Str.ext'
    simp [Str.cps_append]
theorem last_max {l : List Nat} (hp : l.Pairwise (· < ·)) {x : Nat} (h : l.getLast? = some x) : ∀ y ∈ l, y ≤ x := by
  obtain ⟨ys, rfl⟩ := List.getLast?_eq_some_iff.mp h
  intro y hy
  rcases List.mem_append.mp hy with hy | hy
  · exact Nat.le_of_lt ((List.pairwise_append.mp hp).2.2 y hy x (by simp))
  · rw [List.mem_singleton.mp hy]; exact Nat.le_refl _
theorem lastFree_none {n : Nat} {pk : List (Option Nat)} {col : Int} (h : ∀ p, p < n → pk.contains (some p) = false → ¬ (p : Int) < col) : lastFree n pk col = none := by
  unfold lastFree
  rw [List.getLast?_eq_none_iff, List.filter_eq_nil_iff]
  intro p hp hc
  simp only [Bool.and_eq_true, Bool.not_eq_true', decide_eq_true_eq] at hc
  exact h p (List.mem_range.mp hp) hc.1 hc.2
theorem lastFree_some {n p : Nat} {pk : List (Option Nat)} {col : Int} (h1 : p < n) (h2 : pk.contains (some p) = false) (h3 : (p : Int) < col)
    (h : ∀ q, q < n → pk.contains (some q) = false → (q : Int) < col → q ≤ p) : lastFree n pk col = some p := by
  unfold lastFree
  have hm : p ∈ (List.range n).filter fun p => !pk.contains (some p) && decide ((p : Int) < col) :=
    List.mem_filter.mpr ⟨List.mem_range.mpr h1, by rw [h2]; simpa using h3⟩
  have hs : ((List.range n).filter fun p => !pk.contains (some p) && decide ((p : Int) < col)).Pairwise (· < ·) := List.Pairwise.filter _ List.pairwise_lt_range
  cases e : ((List.range n).filter fun p => !pk.contains (some p) && decide ((p : Int) < col)).getLast? with
  | none => rw [List.getLast?_eq_none_iff.mp e] at hm; cases hm
  | some x =>
    have hx := List.mem_of_getLast? e
    obtain ⟨a, b⟩ := List.mem_filter.mp hx
    simp only [Bool.and_eq_true, Bool.not_eq_true', decide_eq_true_eq] at b
    have := h x (List.mem_range.mp a) b.1 b.2
    have := last_max hs e p hm
    rw [show x = p by omega]
/-- the row, written -/
def rowOf (n : Nat) (pk : List (Option Nat)) : Str := ⟨((List.range n).map fun j => if pk.contains (some j) then 35 else 46).toArray⟩

theorem row_join (n : Nat) (pk : List (Option Nat)) : Txt.join (Str.ofString "") ((List.range n).map fun j => if pk.contains (some j) then ("#" : Str) else ".") = rowOf n pk := by
  unfold Txt.join rowOf
  rw [StrLaws.glued_eq_join, ← join_signs, List.map_map]
  congr 1
  refine List.map_congr_left fun j _ => ?_
  show _ = (⟨#[if pk.contains (some j) then 35 else 46]⟩ : Str)
  split <;> decide +kernel
theorem row_len (n : Nat) (pk : List (Option Nat)) : (rowOf n pk).length = n := by
  show ((List.range n).map fun j => if pk.contains (some j) then 35 else 46).toArray.size = n
  simp
theorem row_get (n : Nat) (pk : List (Option Nat)) (p : Nat) (h : p < n) : (rowOf n pk).cps.getD p 0 = if pk.contains (some p) then 35 else 46 := by
  unfold rowOf
  simp [Array.getD, h]
theorem row_weight (pk : List (Option Nat)) : ∀ l : List Nat, ((l.map fun j => if pk.contains (some j) then ("#" : Str) else ".").map (·.length)).sum = l.length
  | [] => rfl
  | j :: r => by
    rw [List.map_cons, List.map_cons, List.sum_cons, row_weight pk r, List.length_cons]
    have : (if pk.contains (some j) then ("#" : Str) else ".").length = 1 := by split <;> decide +kernel
    omega

theorem news_add {h₀ h h' : Heap} {L x : Addr} {l l' : List (Addr × Obj)} (N : News h₀ L h l) (N' : News h₀ L h' l') (keep : ∀ b o, b ≠ x → h.get? b = some o → h'.get? b = some o) (hx : ∀ q ∈ l, q.1 ≠ x) : News h₀ L h' (l ++ l') := fun q hq => by
  rcases List.mem_append.mp hq with hq | hq
  · exact ⟨keep _ _ (hx q hq) (N q hq).1, (N q hq).2⟩
  · exact N' q hq

theorem carried_snoc {v : Value} {d : PyData} (h : Carried v d) : ∀ {vs : List Value} {ds : List PyData}, CarriedAll vs ds → CarriedAll (vs ++ [v]) (ds ++ [d])
  | _, _, .nil => .cons h .nil
  | _, _, .cons a r => .cons a (carried_snoc h r)
theorem parkF_snoc (n : Nat) (l : List Int) (x : Int) : parkF n (l ++ [x]) = parkF n l ++ [lastFree n (parkF n l) (Int.fmod (x + 1) ((n : Int) + 1))] := by
  unfold parkF
  rw [List.foldl_append]
  rfl
theorem parkF_length (n : Nat) (l : List Int) : (parkF n l).length = l.length := by
  have key : ∀ (l : List Int) (a : List (Option Nat)), (l.foldl (fun pk w => pk ++ [lastFree n pk (Int.fmod (w + 1) ((n : Int) + 1))]) a).length = a.length + l.length := by
    intro l
    induction l with
    | nil => intro a; rfl
    | cons x r ih => intro a; rw [List.foldl_cons, ih]; simp; omega
  have := key l []
  simpa [parkF] using this

theorem alive_ne {h₀ h : Heap} {L a b c d x : Addr} {oa ob oc od : Obj} {l : List (Addr × Obj)} (N : News h₀ L h ([(a, oa), (b, ob), (c, oc)] ++ (d, od) :: l)) (hx : h.get? x = none) : x ≠ a ∧ x ≠ d ∧ x ≠ c ∧ x ≠ b := by
  have z : ∀ y o, (y, o) ∈ [(a, oa), (b, ob), (c, oc)] ++ (d, od) :: l → x ≠ y := fun y o hm e => by
    have := (N _ hm).1
    dsimp only at this
    rw [← e, hx] at this; cases this
  exact ⟨z a oa (by simp), z d od (by simp), z c oc (by simp), z b ob (by simp)⟩

theorem canon3 {m₁ m0 : Str → Option Value} {a b c : Str} (h : ∀ y, y ≠ a → y ≠ b → y ≠ c → m₁ y = m0 y) : ∃ u1 u2 u3, m₁ = fun y => if y = a then u1 else if y = b then u2 else if y = c then u3 else m0 y := by
  refine ⟨m₁ a, m₁ b, m₁ c, funext fun y => ?_⟩
  by_cases h1 : y = a
  · simp [h1]
  by_cases h2 : y = b
  · rw [if_neg h1, if_pos h2, h2]
  by_cases h3 : y = c
  · rw [if_neg h1, if_neg h2, if_pos h3, h3]
  rw [if_neg h1, if_neg h2, if_neg h3]; exact h y h1 h2 h3

section
variable {prog : Program} {w : World} {A : Around} {s : Shared} {h₀ : Heap} {L : Addr} {m mg mb : Str → Option Value} {loose : List Str} {mean : ExcName → Option Value} {R : Result → Shared → Prop}

theorem parked_call {n : Nat} {wl : Addr} {ws : List Value} {ns : List Int} {kw : Nat} {t : Tok} {ps qs : Array Value} {news : List (Addr × Obj)} (cx : Cx w loose mean mg mb h₀) (F : Fr h₀ L s.heap m)
    (N : News h₀ L s.heap ((30, tabObj ps) :: (37, tabObj qs) :: news)) (hn : ∀ p ∈ news, p.1 ≠ 30 ∧ p.1 ≠ 37) (TB : TabOk ps spec30 news) (TP : TabOk qs spec37 news)
    (hwl : (wl, listOf ws.toArray kw) ∈ news) (hws : IntsAre ws ns) (hnn : n ≤ 100) (hnl : ns.length ≤ 1000) (hdep : A.depth < 600) (hh : A.handled = none)
    (k : ∀ pa vals kk ps' qs' news' h' tk, Fr h₀ L h' m → News h₀ L h' ((pa, listOf vals kk) :: (30, tabObj ps') :: (37, tabObj qs') :: news') → (∀ q ∈ news, q ∈ news') → (∀ q ∈ news', q ∈ news ∨ (q.1 ≠ 30 ∧ q.1 ≠ 37 ∧ ∀ r ∈ news, r.1 ≠ q.1)) →
      pa ≠ 30 → pa ≠ 37 → (∀ q ∈ news', q.1 ≠ pa) → TabOk ps' spec30 news' → TabOk qs' spec37 news' → CarriedAll vals.toList ((parkF n ns).map encO) → R (.ok (.ret (.ref pa))) { s with heap := h', toks := tk }) :
    codeAny (model prog w) A (.call (.ref 47) ⟨[.ref wl, .int n t], []⟩) R s := by
  have ff : (PySem.Challenge.rw_mr0034_01, hd.heap_39) = (PySem.Challenge.rw_mr0034_01, hd.heap_39) := by k_fill; rfl
  clear ff
  w_on
  refine callC F N cx.T.nolimit (cx.X.keeps F.keep _ _ (by k_is)) rfl (codeRec_of (cx.X.keeps F.keep) (by k_is)) (by rw [show recursionLimit = 1000 from rfl]; omega) (BindsTo.of_eq rfl) rfl (by decide +kernel) rfl rfl rfl ?_
  intro L' h₁ tk cells F' N' Y' st l1
  obtain ⟨oc, rfl, hoc⟩ := CellsAre.one Y'
  clear Y'
  have hoc' : oc.data = .cell none := hoc
  clear hoc
  have cx' := cx.keeps st
  obtain ⟨X', T', C1, C2⟩ := id cx'
  simp only [List.cons_append, List.nil_append] at N'
  refine id ?_
  iterate 4 walk1
  have hlt0 : ∀ q ∈ (L' + 1, oc) :: (30, tabObj ps) :: (37, tabObj qs) :: news, q.1 < h₁.objs.size := fun q hq => Heap.lt_size (N' q hq).1
  refine newList_N F' N' fun h2 F2 N2 => ?_
  clear F' N'
  obtain ⟨pa, hpa⟩ : ∃ pa, pa = h₁.objs.size := ⟨_, rfl⟩
  (try dsimp only at N2 ⊢)
  rw [← hpa] at N2 hlt0 ⊢
  have lLp : L' + 1 < pa := hlt0 _ (.head _)
  have ltL : ∀ q ∈ (30, tabObj ps) :: (37, tabObj qs) :: news, q.1 < L' + 1 := fun q hq => Nat.lt_succ_of_lt (l1 q hq)
  refine storeX_C F2 N2 rfl (UpdF.tail (Nat.ne_of_gt lLp) (UpdF.head fun q hq => Nat.ne_of_lt (ltL q hq))) hoc' ?_ rfl rfl
  intro h3 oc3 F3 N3 hoc3
  clear F2 N2
  (try dsimp only at N3)
  iterate 2 walk1
  refine wpAny_For ?_ (by intro _; rfl)
  iterate 1 walk1
  have N3 : News (hid s.heap ((30, tabObj ps) :: (37, tabObj qs) :: news)) L' h3 ((pa, listOf #[] 0) :: (30, tabObj ps) :: (37, tabObj qs) :: (L' + 1, oc3) :: news) := news_sub N3 fun q hq => by
    simp only [List.mem_cons] at hq ⊢
    rcases hq with h | h | h | h | h <;> simp [h]
  have hwl3 : (wl, listOf ws.toArray kw) ∈ (pa, listOf #[] 0) :: (30, tabObj ps) :: (37, tabObj qs) :: (L' + 1, oc3) :: news := .tail _ (.tail _ (.tail _ (.tail _ hwl)))
  refine wpAny_pyIter_list (News.isList N3 hwl3) ?_
  let m0 : Str → Option Value := fun y => if y = Str.ofString "size" then some (.int n t) else if y = Str.ofString "wishes" then some (.ref wl) else none
  have F3' : Fr (hid s.heap ((30, tabObj ps) :: (37, tabObj qs) :: news)) L' h3 m0 := F3
  obtain ⟨F4, N4, hI4⟩ := iter_push (s := { s with heap := h3, toks := tk }) (o := { cls := .type "list_iterator", data := .fields #[.ref wl, .int 0 0] }) F3' N3
  clear F3 F3'
  have hwI : wl ≠ h3.objs.size := hI4 _ hwl3
  have hwp : wl ≠ pa := Nat.ne_of_lt (Nat.lt_trans (ltL _ (.tail _ (.tail _ hwl))) lLp)
  obtain ⟨I, hI⟩ : ∃ I, I = h3.objs.size := ⟨_, rfl⟩
  dsimp only at N4 hI4 ⊢
  rw [← hI] at N4 hI4 hwI ⊢
  let J : Nat → (Str → Option Value) → List (Addr × Obj) → Prop := fun i m₁ news₁ => ∃ (ps' qs' : Array Value) (nw : List (Addr × Obj)) (vals : Array Value) (kk : Nat),
    news₁ = (pa, listOf vals kk) :: (30, tabObj ps') :: (37, tabObj qs') :: nw ∧ (∀ q ∈ (L' + 1, oc3) :: news, q ∈ nw) ∧ (∀ q ∈ nw, q.1 ≠ 30 ∧ q.1 ≠ 37 ∧ q.1 ≠ pa) ∧ (∀ q ∈ nw, q ∈ news ∨ (∀ r ∈ news, r.1 ≠ q.1)) ∧ TabOk ps' spec30 nw ∧ TabOk qs' spec37 nw ∧
    (∀ y, y ≠ Str.ofString "wish" → y ≠ Str.ofString "chars" → y ≠ Str.ofString "found" → m₁ y = m0 y) ∧ CarriedAll vals.toList ((parkF n (ns.take i)).map encO)
  refine for_gen (Walks.list (A := A.deeper _) hh I wl hwI ws.toArray) ⟨⟨_, by rw [hI]; exact Heap.get?_push_size _ rfl, rfl, rfl⟩, (News.isList N3 hwl3).push _⟩ F4 N4 hI4 J ⟨ps, qs, (L' + 1, oc3) :: news, #[], 0, rfl, fun q hq => hq, ?_, ?_, TB.mono fun q hq => .tail _ hq, TP.mono fun q hq => .tail _ hq, fun _ _ _ _ => rfl, .nil⟩ (by passes_own)
    (fun i h hst => by obtain ⟨⟨o, ho, _⟩, _⟩ := hst; exact ⟨o, ho⟩) ?_ ?_ (fun _ => rfl)
  · intro q hq
    rcases List.mem_cons.mp hq with rfl | hq
    · have a := ltL _ (.head _)
      have b := ltL _ (.tail _ (.head _))
      exact ⟨Nat.ne_of_gt a, Nat.ne_of_gt b, Nat.ne_of_lt lLp⟩
    · exact ⟨(hn q hq).1, (hn q hq).2, Nat.ne_of_lt (Nat.lt_trans (ltL _ (.tail _ (.tail _ hq))) lLp)⟩
  · intro q hq
    rcases List.mem_cons.mp hq with rfl | hq
    · exact .inr fun r hr => Nat.ne_of_lt (ltL _ (.tail _ (.tail _ hr)))
    · exact .inl hq
  · clear F4 N4 hI4 N3
    rintro i v m₁ news₁ h tk1 oI hlt hP ⟨ps', qs', nw, vals, kk, rfl, sub, ne3, fr, TBx, TPx, hm, hc⟩ hnI F₁ N₁
    obtain ⟨u1, u2, u3, rfl⟩ := canon3 hm
    clear hm
    have hwlh : h.get? wl = some (listOf ws.toArray kw) := (N₁ (wl, listOf ws.toArray kw) (.tail _ (.tail _ (.tail _ (.tail _ (sub _ (.tail _ hwl))))))).1
    have hltn : i < ns.length := by rw [List.size_toArray, hws.length] at hlt; exact hlt
    obtain ⟨tx, hx⟩ := hws.get i ns[i] (by simp [hltn])
    obtain rfl : v = .int ns[i] tx := by
      have hP' : ws[i]? = some v := by simpa using hP
      rw [hx] at hP'; exact (Option.some.inj hP').symm
    iterate 9 walk1
    rename Fr _ _ _ _ => F5
    rename News _ _ _ _ => N5
    let pk : List (Option Nat) := parkF n (ns.take i)
    have cell_in : (L' + 1, oc3) ∈ (I, oI) :: (pa, listOf vals kk) :: (30, tabObj ps') :: (37, tabObj qs') :: nw := .tail _ (.tail _ (.tail _ (.tail _ (sub _ (.head _)))))
    refine spliced_more (comp_range (n := n) (fun v y => ∃ (j : Nat) (t t' : Tok), v = .int j t ∧ y = .str (if pk.contains (some j) then "#" else ".") t') F5 N5 hh (by omega) rfl (by decide) rfl (by decide) rfl (by intro _; rfl) ?_ ?_ ?_)
    · iterate 6 walk1
      refine range1_rows F5 N5 ?_
      intro h6 tk6 t6 u6 v6 hr6 F6 N6 hk6
      exact ⟨_, t6, u6, v6, h6, tk6, rfl, rfl, hr6, F6, N6⟩
    · intro C j tj s₃ m₃ E' hns hm hnw hbase
      refine IfExp_ (wpAny_isTrue_Compare1 (wpAny_Name (wpAny_loadName_local rfl rfl hns hm (wpAny_Name (wpAny_loadName_cell rfl rfl rfl ⟨oc3, hnw _ cell_in, hoc3⟩ ?_)))))
      refine in_made_int (ys := vals.toList) ⟨_, hnw (pa, listOf vals kk) (.tail _ (.head _)), rfl, kk, by simp⟩ hc ?_
      rw [any_enc]
      refine wpAny_truthy_bool ?_
      by_cases hpj : pk.contains (some j) = true
      · rw [if_pos hpj]
        exact wpAny_Constant_str ⟨⟨j, tj, _, rfl, by rw [if_pos hpj]⟩, _, _, rfl, fun _ _ e => e⟩
      · rw [if_neg hpj]
        exact wpAny_Constant_str ⟨⟨j, tj, _, rfl, by rw [if_neg hpj]⟩, _, _, rfl, fun _ _ e => e⟩
    · intro D h6 tk6 ys k6 F6 N6 hD hsz hys
      refine spliced_none ?_
      have hstr : StrsAre ys.toList ((List.range n).map fun j => if pk.contains (some j) then ("#" : Str) else ".") := by
        have := strs_of (fun j => if pk.contains (some j) then ("#" : Str) else ".") ys.toList 0 fun i y hy => by
          obtain ⟨t, j, t1, t', e, r⟩ := hys i y hy
          have : i = j := by injection e with e1; omega
          subst this
          exact ⟨t', by rw [Nat.zero_add]; exact r⟩
        rwa [Array.length_toList, hsz, ← List.range_eq_range'] at this
      refine join_listW (News.isList N6 (.head _)) hstr (by decide) (by rw [row_weight]; simp; omega) ?_
      rw [row_join]
      intro t7 tk7
      iterate 14 walk1
      rename Fr _ _ _ _ => F8
      rename News _ _ _ _ => N8
      have hInw : ∀ q ∈ nw, q.1 ≠ I := fun q hq => hnI q (.tail _ (.tail _ (.tail _ hq)))
      have i30 : (30 : Nat) ≠ I := hnI (30, tabObj ps') (.tail _ (.head _))
      have i37 : (37 : Nat) ≠ I := hnI (37, tabObj qs') (.tail _ (.tail _ (.head _)))
      have ipa : pa ≠ I := hnI (pa, listOf vals kk) (.head _)
      have p30 : pa ≠ 30 := Nat.ne_of_gt (Nat.lt_trans (ltL _ (.head _)) lLp)
      have p37 : pa ≠ 37 := Nat.ne_of_gt (Nat.lt_trans (ltL _ (.tail _ (.head _))) lLp)
      refine wpAny_call (prog_call cx' F8 (news := nw) (news_sub N8 ?_) (fun q hq => (ne3 q hq).2.1) TPx (by show A.depth + 1 < 900; omega) ?_)
      · intro q hq
        simp only [List.mem_cons] at hq ⊢
        rcases hq with h | h <;> simp [h]
      intro ap qs9 news9 h9 tk9 F9 N9 keep9 sub9 fr9 TP9 PL
      have N9' := news_add (l := [(30, tabObj ps'), (I, oI), (pa, listOf vals kk)]) (news_sub N8 (by intro q hq; simp only [List.mem_cons, List.mem_nil_iff, or_false] at hq ⊢; rcases hq with h | h | h <;> simp [h])) N9 keep9 (by
        intro q hq
        simp only [List.mem_cons, List.mem_nil_iff, or_false] at hq
        rcases hq with rfl | rfl | rfl
        · show (30 : Nat) ≠ 37; decide
        · exact Ne.symm i37
        · exact p37)
      have ne9 : ∀ q ∈ news9, q.1 ≠ 30 ∧ q.1 ≠ 37 ∧ q.1 ≠ pa ∧ q.1 ≠ I := fun q hq => by
        rcases fr9 q hq with hq | hq
        · exact ⟨(ne3 q hq).1, (ne3 q hq).2.1, (ne3 q hq).2.2, hInw q hq⟩
        · have z : ∀ b o, (b, o) ∈ (D, listOf ys k6) :: (I, oI) :: (pa, listOf vals kk) :: (30, tabObj ps') :: (37, tabObj qs') :: nw → q.1 ≠ b := fun b o hm e => by
            have := (N8 _ hm).1
            dsimp only at hq
            rw [e] at hq
            dsimp only at this
            rw [hq] at this; cases this
          exact ⟨z 30 (tabObj ps') (by simp), z 37 (tabObj qs') (by simp), z pa (listOf vals kk) (by simp), z I oI (by simp)⟩
      have nf9 : ∀ q ∈ news9, q ∈ news ∨ ∀ r ∈ news, r.1 ≠ q.1 := fun q hq => by
        rcases fr9 q hq with hq | hq
        · exact fr q hq
        · refine .inr fun r hr e => ?_
          have := (N8 r (.tail _ (.tail _ (.tail _ (.tail _ (.tail _ (sub r (.tail _ hr)))))))).1
          dsimp only at hq this
          rw [e, hq] at this; cases this
      clear F8 N8 N9
      iterate 12 walk1
      have hn0 : (n : Int) + 1 ≠ 0 := by omega
      iterate 3 walk1
      have hsize : vals.size = i := by
        have := hc.length_eq
        rw [List.length_map, parkF_length, List.length_take, Array.length_toList] at this
        omega
      have endturn : ∀ (v : Value) (o : Option Nat) (ps10 : Array Value) (news10 : List (Addr × Obj)) (h' : Heap) (tk' : Nat) (m2 : Str → Option Value), lastFree n pk (Int.fmod (ns[i] + 1) ((n : Int) + 1)) = o → Carried v (encO o) →
          Fr (hid s.heap ((30, tabObj ps) :: (37, tabObj qs) :: news)) L' h' m2 → (∀ y, y ≠ Str.ofString "wish" → y ≠ Str.ofString "chars" → y ≠ Str.ofString "found" → m2 y = m0 y) →
          News (hid s.heap ((30, tabObj ps) :: (37, tabObj qs) :: news)) L' h' ((pa, listOf (vals.push v) (kk + 1)) :: (I, oI) :: (37, tabObj qs9) :: (30, tabObj ps10) :: news10) → (∀ q ∈ news9, q ∈ news10) →
          (∀ q ∈ news10, q.1 ≠ 30 ∧ q.1 ≠ 37 ∧ q.1 ≠ pa ∧ q.1 ≠ I) → (∀ q ∈ news10, q ∈ news ∨ ∀ r ∈ news, r.1 ≠ q.1) → TabOk ps10 spec30 news10 →
          ∃ h'' tk'' m₂ news₂, ({ s with heap := h', toks := tk' } : Shared) = { s with heap := h'', toks := tk'' } ∧ Fr (hid s.heap ((30, tabObj ps) :: (37, tabObj qs) :: news)) L' h'' m₂ ∧ News (hid s.heap ((30, tabObj ps) :: (37, tabObj qs) :: news)) L' h'' ((I, oI) :: news₂) ∧ (∀ p ∈ news₂, p.1 ≠ I) ∧
            (∀ b ∈ [I, wl], b ≠ I → ∀ o, h.get? b = some o → h''.get? b = some o) ∧ J (i + 1) m₂ news₂ := by
        intro v o ps10 news10 h' tk' m2 hlf hcv F12 hm2 N12 sub10 ne10 nf10 TB10
        refine ⟨h', tk', m2, (pa, listOf (vals.push v) (kk + 1)) :: (30, tabObj ps10) :: (37, tabObj qs9) :: news10, rfl, F12, news_sub N12 ?_, ?_, ?_, ps10, qs9, news10, vals.push v, kk + 1, rfl, fun q hq => sub10 _ (sub9 _ (sub q hq)), fun q hq => ⟨(ne10 q hq).1, (ne10 q hq).2.1, (ne10 q hq).2.2.1⟩, nf10, TB10, TP9.mono sub10, hm2, ?_⟩
        · intro q hq
          simp only [List.mem_cons] at hq ⊢
          rcases hq with h | h | h | h | h <;> simp [h]
        · intro q hq
          simp only [List.mem_cons] at hq
          rcases hq with rfl | rfl | rfl | hq
          · exact ipa
          · exact i30
          · exact i37
          · exact (ne10 q hq).2.2.2
        · intro b hb hbI ob hob
          obtain rfl : b = wl := by simpa [hbI] using hb
          have e1 := hwlh
          rw [hob] at e1; cases e1
          exact (N12 (b, listOf ws.toArray kw) (.tail _ (.tail _ (.tail _ (.tail _ (sub10 _ (sub9 _ (sub _ (.tail _ hwl))))))))).1
        · rw [List.take_add_one, List.getElem?_eq_getElem hltn, Option.toList_some, parkF_snoc, List.map_append, Array.toList_push]
          exact carried_snoc (by rw [hlf]; exact hcv) hc
      refine wpAny_call (sr_call (c := 46) (l := news9) (news := news9) cx' F9 (news_sub N9' ?_) (fun q hq => (ne9 q hq).1) (TBx.mono sub9) PL (fun q hq => hq) (by show A.depth + 1 < 700; omega) hh ?_ ?_)
      · intro q hq
        simp only [List.mem_cons, List.mem_append] at hq ⊢
        rcases hq with h | h <;> simp [h]
      · intro hno ps10 news10 h10 tk10 F10 N10 keep10 sub10 fr10 TB10
        have hlf : lastFree n pk (Int.fmod (ns[i] + 1) ((n : Int) + 1)) = none := lastFree_none fun p hp hc => hno p (by rw [row_len]; exact hp) (by rw [row_get n pk p hp, hc]; rfl)
        have N10' := news_add (l := [(pa, listOf vals kk), (I, oI), (37, tabObj qs9)]) (news_sub N9' (by intro q hq; simp only [List.mem_cons, List.mem_append, List.mem_nil_iff, or_false] at hq ⊢; rcases hq with h | h | h <;> simp [h])) N10 keep10 (by
          intro q hq
          simp only [List.mem_cons, List.mem_nil_iff, or_false] at hq
          rcases hq with rfl | rfl | rfl
          · exact p30
          · exact Ne.symm i30
          · show (37 : Nat) ≠ 30; decide)
        have ne10 : ∀ q ∈ news10, q.1 ≠ 30 ∧ q.1 ≠ 37 ∧ q.1 ≠ pa ∧ q.1 ≠ I := fun q hq => by
          rcases fr10 q hq with hq | hq
          · exact ne9 q hq
          · exact alive_ne N9' hq
        have nf10 : ∀ q ∈ news10, q ∈ news ∨ ∀ r ∈ news, r.1 ≠ q.1 := fun q hq => by
          rcases fr10 q hq with hq | hq
          · exact nf9 q hq
          · refine .inr fun r hr e => ?_
            have := (N9' r (List.mem_append_right _ (.tail _ (sub9 _ (sub r (.tail _ hr)))))).1
            dsimp only at hq this
            rw [e, hq] at this; cases this
        have N11 := news_sub (l' := (pa, listOf vals kk) :: (I, oI) :: (37, tabObj qs9) :: (30, tabObj ps10) :: (L' + 1, oc3) :: news10) N10' (by
          intro q hq
          simp only [List.mem_cons, List.mem_append, List.mem_nil_iff, or_false] at hq ⊢
          rcases hq with h | h | h | h | h | h
          · simp [h]
          · simp [h]
          · simp [h]
          · simp [h]
          · rw [h]; exact .inr (.inr (sub10 _ (sub9 _ (sub _ (.head _)))))
          · simp [h])
        clear F9 N9' N10 N10'
        iterate 18 walk1
        rename Fr _ _ _ _ => F12
        rename News _ _ _ _ => N12
        refine append_K (news' := (pa, listOf (vals.push .none) (kk + 1)) :: (I, oI) :: (37, tabObj qs9) :: (30, tabObj ps10) :: (L' + 1, oc3) :: news10) F12 N12 (Upd.head ?_) ?_ (by rw [sizeLine_eq, hsize]; omega)
        · intro q hq
          simp only [List.mem_cons] at hq
          rcases hq with rfl | rfl | rfl | rfl | hq
          · exact Ne.symm ipa
          · exact Ne.symm p37
          · exact Ne.symm p30
          · exact Nat.ne_of_lt lLp
          · exact (ne10 q hq).2.2.1
        intro h13 F13 N13
        clear F12 N12
        iterate 1 walk1
        exact endturn .none none ps10 news10 h13 _ _ hlf .none F13 (fun y h1 h2 h3 => by simp [h1, h2, h3]) (news_sub N13 (by
          intro q hq
          simp only [List.mem_cons] at hq ⊢
          rcases hq with h | h | h | h | h <;> simp [h])) sub10 ne10 nf10 TB10
      · intro p hp hpc hpl hpm a10 ps10 news10 h10 tk10 F10 N10 keep10 sub10 fr10 TB10 H10
        rw [row_len] at hp hpm
        have free : ∀ q, q < n → ((rowOf n pk).cps.getD q 0 = 46 ↔ pk.contains (some q) = false) := fun q hq => by
          rw [row_get n pk q hq]
          cases pk.contains (some q) <;> simp
        have hlf : lastFree n pk (Int.fmod (ns[i] + 1) ((n : Int) + 1)) = some p := lastFree_some hp ((free p hp).mp hpc) hpl fun q hq hc hl => hpm q hq ((free q hq).mpr hc) hl
        have N10' := news_add (l := [(pa, listOf vals kk), (I, oI), (37, tabObj qs9)]) (news_sub N9' (by intro q hq; simp only [List.mem_cons, List.mem_append, List.mem_nil_iff, or_false] at hq ⊢; rcases hq with h | h | h <;> simp [h])) N10 keep10 (by
          intro q hq
          simp only [List.mem_cons, List.mem_nil_iff, or_false] at hq
          rcases hq with rfl | rfl | rfl
          · exact p30
          · exact Ne.symm i30
          · show (37 : Nat) ≠ 30; decide)
        have ne10 : ∀ q ∈ news10, q.1 ≠ 30 ∧ q.1 ≠ 37 ∧ q.1 ≠ pa ∧ q.1 ≠ I := fun q hq => by
          rcases fr10 q hq with hq | hq
          · exact ne9 q hq
          · exact alive_ne N9' hq
        have nf10 : ∀ q ∈ news10, q ∈ news ∨ ∀ r ∈ news, r.1 ≠ q.1 := fun q hq => by
          rcases fr10 q hq with hq | hq
          · exact nf9 q hq
          · refine .inr fun r hr e => ?_
            have := (N9' r (List.mem_append_right _ (.tail _ (sub9 _ (sub r (.tail _ hr)))))).1
            dsimp only at hq this
            rw [e, hq] at this; cases this
        have N11 := news_sub (l' := (pa, listOf vals kk) :: (I, oI) :: (37, tabObj qs9) :: (30, tabObj ps10) :: (L' + 1, oc3) :: news10) N10' (by
          intro q hq
          simp only [List.mem_cons, List.mem_append, List.mem_nil_iff, or_false] at hq ⊢
          rcases hq with h | h | h | h | h | h
          · simp [h]
          · simp [h]
          · simp [h]
          · simp [h]
          · rw [h]; exact .inr (.inr (sub10 _ (sub9 _ (sub _ (.head _)))))
          · simp [h])
        clear F9 N9' N10 N10'
        obtain ⟨f10, HA10, HS10⟩ := H10
        iterate 19 walk1
        rename Fr _ _ _ _ => F12
        rename News _ _ _ _ => N12
        have in12 : ∀ q ∈ news10, q ∈ (pa, listOf vals kk) :: (I, oI) :: (37, tabObj qs9) :: (30, tabObj ps10) :: (L' + 1, oc3) :: news10 := fun q hq => .tail _ (.tail _ (.tail _ (.tail _ (.tail _ hq))))
        refine fn_getMethodN N12 HA10 in12 lk_span fun tk12 => ?_
        refine callWith_F0 (isFn_of N12 HA10 in12) ?_
        refine wpAny_call (HS10 _ _ _ _ _ _ _ cx' F12 N12 in12 (by show A.depth + 1 < 900; omega) ?_)
        intro h13 T13 tk13 t13 t13' F13 N13 l13
        clear F12 N12
        (try dsimp only)
        iterate 3 walk1
        rename Fr _ _ _ _ => F14
        rename News _ _ _ _ => N14
        refine append_K (news' := (pa, listOf (vals.push (.int p t13)) (kk + 1)) :: (I, oI) :: (37, tabObj qs9) :: (30, tabObj ps10) :: (L' + 1, oc3) :: news10) F14 (news_sub N14 fun q hq => .tail _ hq) (Upd.head ?_) ?_ (by rw [sizeLine_eq, hsize]; omega)
        · intro q hq
          simp only [List.mem_cons] at hq
          rcases hq with rfl | rfl | rfl | rfl | hq
          · exact Ne.symm ipa
          · exact Ne.symm p37
          · exact Ne.symm p30
          · exact Nat.ne_of_lt lLp
          · exact (ne10 q hq).2.2.1
        intro h15 F15 N15
        clear F14 N14
        iterate 2 walk1
        exact endturn (.int p t13) (some p) ps10 news10 h15 _ _ hlf (.int _ _) F15 (fun y h1 h2 h3 => by simp [h1, h2, h3]) (news_sub N15 (by
          intro q hq
          simp only [List.mem_cons] at hq ⊢
          rcases hq with h | h | h | h | h <;> simp [h])) sub10 ne10 nf10 TB10
  · clear F4 N4 hI4 N3
    rintro h tk1 m₁ news₁ ⟨ps', qs', nw, vals, kk, rfl, sub, ne3, fr, TBx, TPx, hm, hc⟩ F₁ N₁
    dsimp only
    iterate 2 walk1
    refine nameX_C N₁ rfl (.tail _ (.tail _ (.tail _ (sub _ (.head _))))) hoc3 ?_ rfl rfl (by decide)
    dsimp only
    obtain ⟨F5, N5⟩ := hid_back F N F₁ N₁
    rw [List.size_toArray, hws.length, List.take_length] at hc
    refine k pa vals kk ps' qs' nw h tk1 F5 N5 (fun q hq => sub q (.tail _ hq)) (fun q hq => ?_) (Nat.ne_of_gt (Nat.lt_trans (ltL _ (.head _)) lLp)) (Nat.ne_of_gt (Nat.lt_trans (ltL _ (.tail _ (.head _))) lLp)) (fun q hq => (ne3 q hq).2.2) TBx TPx hc
    rcases fr q hq with h | h
    · exact .inl h
    · exact .inr ⟨(ne3 q hq).1, (ne3 q hq).2.1, h⟩
end
end Mine
end

section
open PySem PySem.W PyProof.Rows PySem.Calls
set_option maxRecDepth 100000
set_option maxHeartbeats 4000000
namespace Mine

/-- one item taken off -/
def uldStep (st : List Nat × List (Option Nat)) (x : Nat) : List Nat × List (Option Nat) := if st.2.contains (some x) then (st.1, st.2.erase (some x)) else (st.1 ++ [x], st.2)
/-- what unorderable_list_difference gives of the stalls and the list of what the drivers got -/
def uldF (n : Nat) (pk : List (Option Nat)) : List Nat × List (Option Nat) := (List.range n).reverse.foldl uldStep ([], pk)

theorem hidI_stays {h₀ h : Heap} {L : Addr} {m : Str → Option Value} {news : List (Addr × Obj)} {oL : Obj} (F : Fr h₀ L h m) (N : News h₀ L h news) : h₀.StaysIn (hid h (news ++ [(L, oL)])) := fun b o e =>
  hideAll_get _ (F.keep b o e) fun q => by
    obtain ⟨p, hp, rfl⟩ := List.mem_map.mp q
    rcases List.mem_append.mp hp with hp | hp
    · rw [(N p hp).2.2] at e; cases e
    · obtain rfl := List.mem_singleton.mp hp
      exact Nat.lt_irrefl _ (Nat.lt_of_lt_of_le (Heap.lt_size e) F.above)

/-- back in the caller's frame, whose slots may be other ones -/
theorem hidI_back {h₀ h h' : Heap} {L L' : Addr} {m m' : Str → Option Value} {news news' : List (Addr × Obj)} {oL : Obj} {sl : Array (Option Value)} (F : Fr h₀ L h m) (N : News h₀ L h news) (hL : h.get? L = some oL)
    (F' : Fr (hid h (news ++ [(L, oL)])) L' h' m') (N' : News (hid h (news ++ [(L, oL)])) L' h' (news' ++ [(L, { oL with slots := sl })])) (hne : ∀ p ∈ news', p.1 ≠ L) : Fr h₀ L h' m ∧ News h₀ L h' news' := by
  have st := hidI_stays (oL := oL) F N
  obtain ⟨oL', es, ep, hL', hLd, hLk, hLf⟩ := F.ns
  rw [hL] at hL'; cases hL'
  have hLn := (N' (L, { oL with slots := sl }) (List.mem_append_right _ (.head _))).1
  refine ⟨⟨⟨_, es, ep, hLn, hLd, hLk, hLf⟩, fun b o e => F'.keep b o (st b o e), F.above⟩, fun p hp => ⟨(N' p (List.mem_append_left _ hp)).1, hne p hp, ?_⟩⟩
  cases q : h₀.get? p.1 with
  | none => rfl
  | some o => have := (N' p (List.mem_append_left _ hp)).2.2; rw [st _ _ q] at this; cases this

theorem allLt_mem {d : Addr} : ∀ {l : List (Addr × Obj)}, AllLt d l → ∀ p ∈ l, p.1 < d
  | [], _, _, h => nomatch h
  | _ :: _, x, p, h => by
    rcases List.mem_cons.mp h with rfl | h
    · exact x.1
    · exact allLt_mem x.2 p h
theorem allNe_of {L : Addr} : ∀ {l : List (Addr × Obj)}, (∀ p ∈ l, p.1 ≠ L) → TLg.AllNe L l
  | [], _ => trivial
  | p :: r, h => ⟨h p (.head _), allNe_of fun q hq => h q (.tail _ hq)⟩
theorem ints_snoc (k : Int) (t : Tok) : ∀ {vs : List Value} {ns : List Int}, IntsAre vs ns → IntsAre (vs ++ [.int k t]) (ns ++ [k])
  | _, _, .nil => .cons k t .nil
  | _, _, .cons a b r => .cons a b (ints_snoc k t r)
theorem eqg_int {y : Value} {d : PyData} (c : Carried y d) (x : Int) (u : Tok) : MeetsSeq.EqGives y (.int x u) (valHitsInt x y) := fun prog w A E s Q h => c.eqAtInt x u prog w E Q h

theorem hit_enc (x : Nat) : ∀ (left : List (Option Nat)) (vs : List Value), CarriedAll vs (left.map encO) → left.contains (some x) = true →
    ∃ j, ∃ hj : j < vs.length, valHitsInt x vs[j] = true ∧ (∀ i (hi : i < vs.length), i < j → valHitsInt x vs[i] = false) ∧ CarriedAll (vs.eraseIdx j) ((left.erase (some x)).map encO)
  | [], _, _, h => by cases h
  | o :: r, _, .cons (vs := vs) (v := v) c cs, h => by
    by_cases e : o = some x
    · subst e
      refine ⟨0, Nat.zero_lt_succ _, ?_, fun i _ hi => absurd hi (Nat.not_lt_zero _), ?_⟩
      · cases c; simp [valHitsInt]
      · rw [List.erase_cons_head]; exact cs
    · have h2 : r.contains (some x) = true := by
        rw [List.contains_cons] at h
        rcases Bool.or_eq_true_iff.mp h with h | h
        · exact absurd (beq_iff_eq.mp h).symm e
        · exact h
      obtain ⟨j, hj, a, b, d⟩ := hit_enc x r vs cs h2
      refine ⟨j + 1, Nat.succ_lt_succ hj, a, fun i hi hlt => ?_, ?_⟩
      · cases i with
        | zero =>
          show valHitsInt x v = false
          cases o with
          | none => cases c; rfl
          | some p =>
            cases c
            show ((p : Int) == (x : Int)) = false
            rw [beq_eq_false_iff_ne]
            intro q
            exact e (by rw [Int.ofNat.inj q])
        | succ i => exact b i (Nat.lt_of_succ_lt_succ hi) (Nat.lt_of_succ_lt_succ hlt)
      · rw [List.erase_cons_tail (by simpa using e)]
        exact .cons c d
theorem miss_enc (x : Nat) : ∀ (left : List (Option Nat)) (vs : List Value), CarriedAll vs (left.map encO) → left.contains (some x) = false → ∀ y ∈ vs, valHitsInt x y = false := by
  intro left vs hc h y hy
  have a := hc.anyInt x
  rw [any_enc, h, List.any_eq_false] at a
  simpa using a y hy

section
variable {prog : Program} {w : World} {A : Around} {E : Value → Shared → Prop} {s : Shared} {h₀ : Heap} {L D : Addr} {m : Str → Option Value} {pre post : List (Addr × Obj)} {its : Array Value} {n : Nat}
theorem rm_hit {x : Nat} {t : Tok} {left : List (Option Nat)} {Q : Value → Shared → Prop} (F : Fr h₀ L s.heap m) (N : News h₀ L s.heap (pre ++ (D, listOf its n) :: post)) (a' : ∀ p ∈ pre, p.1 ≠ D) (b' : ∀ p ∈ post, p.1 ≠ D)
    (hc : CarriedAll its.toList (left.map encO)) (hx : left.contains (some x) = true) (hz : left.length ≤ 1000)
    (h : ∀ h' its', Fr h₀ L h' m → News h₀ L h' (pre ++ (D, listOf its' (n + 1)) :: post) → CarriedAll its'.toList ((left.erase (some x)).map encO) → Q .none { s with heap := h' }) : wpAny (model prog w) A (call (.builtin "list.remove") [.ref D, .int x t]) Q E s := by
  have z := N (D, listOf its n) (List.mem_append.mpr (.inr (.head _)))
  obtain ⟨j, hj, a, b, d⟩ := hit_enc x left its.toList hc hx
  have hsz : its.size = left.length := by rw [← Array.length_toList, hc.length_eq, List.length_map]
  have hj' : j < its.size := by simpa using hj
  refine call_meets PySem.F.slot_list_remove ⟨_, z.1, rfl⟩ PySem.F.entry_list_remove (PySem.F.args_list_remove_2 _ _)
    (MeetsSeq.list_remove D its n (.int x t) (valHitsInt x) (fun y hy => by obtain ⟨dd, c⟩ := hc.memC y (by simpa using hy); exact eqg_int c x t) j hj' (by simpa using a) (fun i hi hlt => (b i (by simpa using hi) hlt : valHitsInt x its.toList[i] = false)) (by rw [sizeLine_eq]; omega))
    ⟨z.1, h _ (its.eraseIdxIfInBounds j) (F.change (Heap.SameBut.update ..) z.2.1 z.2.2) (ki_turn _ N a' b' rfl ?_) ?_⟩
  · have hq : (its.eraseIdxIfInBounds j).size ≠ its.size := by
      rw [← Array.length_toList, Array.toList_eraseIdxIfInBounds, List.length_eraseIdx, if_pos hj, Array.length_toList]; omega
    rw [if_neg (by simpa using hq)]
  · rw [Array.toList_eraseIdxIfInBounds]; exact d
theorem rm_miss {x : Nat} {t : Tok} {left : List (Option Nat)} {Q : Value → Shared → Prop} (N : News h₀ L s.heap (pre ++ (D, listOf its n) :: post))
    (hc : CarriedAll its.toList (left.map encO)) (hx : left.contains (some x) = false) (hh : A.handled = none)
    (h : ∀ h' tk e, Heap.NewExc s.heap h' e "ValueError" → E (.ref e) { s with heap := h', toks := tk }) : wpAny (model prog w) A (call (.builtin "list.remove") [.ref D, .int x t]) Q E s := by
  have z := N (D, listOf its n) (List.mem_append.mpr (.inr (.head _)))
  refine call_meets PySem.F.slot_list_remove ⟨_, z.1, rfl⟩ PySem.F.entry_list_remove (PySem.F.args_list_remove_2 _ _)
    (MeetsSeq.list_remove_none D its n (.int x t) (valHitsInt x) (fun y hy => by obtain ⟨dd, c⟩ := hc.memC y (by simpa using hy); exact eqg_int c x t) (fun i hi => miss_enc x left its.toList hc hx _ (by simp)))
    ⟨z.1, hh, fun h' tk e hx => h h' tk e hx⟩
end

section
variable {prog : Program} {w : World} {A : Around} {s : Shared} {h₀ : Heap} {L : Addr} {m : Str → Option Value} {news : List (Addr × Obj)}
  {R : Result → Shared → Prop} {name qual : Str} {params : Arguments} {scope : Scope} {cl : List (Str × Addr)} {dV kV doc pm cdv ct : Value} {an : Option Addr} {fo : Obj} {f : Addr} {args : Args} {binds : List (Str × Value)}

/-- a call of a def without cells; the caller's frame is of the ledger, the last of it -/
theorem callI {body : List Stmt} (F : Fr h₀ L s.heap m) (N : News h₀ L s.heap news) (hlim : h₀.NoLimit)
    (ho : s.heap.get? f = some fo) (hd : fo.data = .func (fnX name qual params body scope cl dV kV doc pm an cdv ct)) (hcd : s.heap.CodeRec cdv qual) (hroom : A.depth < recursionLimit)
    (hbind : BindsTo s (fnX name qual params body scope cl dV kV doc pm an cdv ct) args binds) (hloc : ∀ y ∈ binds, scope.names.lookup y.1 = some .local)
    (hcell : ∀ x ∈ scope.names, x.2 ≠ .cell) (hco : scope.isCoroutine = false) (hgen : scope.isGenerator = false) (hk : scope.kind = .function)
    (h : ∀ L' h₁ oL, s.heap.get? L = some oL → (∃ es ep, oL.data = .dict es ep) → Fr (hid s.heap (news ++ [(L, oL)])) L' h₁ (fun y => binds.reverse.lookup y) → News (hid s.heap (news ++ [(L, oL)])) L' h₁ (news ++ [(L, oL)]) → h₀.StaysIn (hid s.heap (news ++ [(L, oL)])) → (∀ p ∈ news ++ [(L, oL)], p.1 < L') →
      wpAny (model prog w) (A.deeper (envX qual scope L' f cdv cl)) (execs body (envX qual scope L' f cdv cl))
        (fun fl s' => R (.ok (.ret (match fl with | .ret v => v | _ => .none))) s')
        (fun e s' => wpAny (model prog w) (A.deeper (envX qual scope L' f cdv cl)) (leaving (envX qual scope L' f cdv cl) e) (fun _ s'' => R (.error e) s'') (fun e' s'' => R (.error e') s'') s')
        { s with heap := h₁, toks := s.toks + binds.length }) : codeAny (model prog w) A (.call (.ref f) args) R s := by
  obtain ⟨oL, es, ep, hL, hLd, hLk, hLf⟩ := F.ns
  have N2 : ∀ p ∈ news ++ [(L, oL)], s.heap.get? p.1 = some p.2 := fun p hp => by
    rcases List.mem_append.mp hp with hp | hp
    · exact (N p hp).1
    · rw [List.mem_singleton.mp hp]; exact hL
  refine codeAny_call_def (fd := fnX name qual params body scope cl dV kV doc pm an cdv ct) (body := body) (binds := binds) hroom ho hd (hlim.keeps F.keep) hcd rfl hbind hcell hloc (fun h₁ hns hk₁ => ?_) hco hgen hk
  exact h s.heap.objs.size h₁ oL hL ⟨es, ep, hLd⟩ ⟨hns, fun b o e => hk₁ b o (of_hideAll _ e), Nat.le_of_eq (hideAll_size _ _)⟩
    (fun p hp => ⟨hk₁ _ _ (N2 p hp), Nat.ne_of_lt (Heap.lt_size (N2 p hp)), hideAll_none _ (List.mem_map_of_mem hp)⟩) (hidI_stays F N) (fun p hp => Heap.lt_size (N2 p hp))
end

section
variable {prog : Program} {w : World} {A : Around} {s : Shared} {h₀ : Heap} {L : Addr} {m mg mb : Str → Option Value} {loose : List Str} {mean : ExcName → Option Value} {R : Result → Shared → Prop}

theorem uld_call {n : Nat} {xl pa : Addr} {xs : List Value} {vals : Array Value} {kx kk : Nat} {env : Env} {pk : List (Option Nat)} {news : List (Addr × Obj)} (cx : Cx w loose mean mg mb h₀) (F : Fr h₀ L s.heap m)
    (N : News h₀ L s.heap ((xl, listOf xs.toArray kx) :: (pa, listOf vals kk) :: news)) (hn : ∀ p ∈ news, p.1 ≠ xl ∧ p.1 ≠ pa) (hpx : pa ≠ xl)
    (hxs : IntsAre xs ((List.range n).map Int.ofNat)) (hpk : CarriedAll vals.toList (pk.map encO)) (hnn : n ≤ 1000) (hpl : pk.length ≤ 1000) (hdep : A.depth < 600) (hh : A.handled = none)
    (hfr : A.frames = some [env]) (hef : env.frame = some L) (hek : env.scope.kind ≠ .module) (t2 : ("ValueError" : Str) ∉ loose) (t5 : ("ValueError" : Str) ∉ (clssOf topProg loose).map (·.name))
    (k : ∀ ta ml mv km vals' kk' kx' h' tk, Fr h₀ L h' m → News h₀ L h' ((ta, tup2 (.ref ml) (.ref pa)) :: (ml, listOf mv km) :: (pa, listOf vals' kk') :: (xl, listOf #[] kx') :: news) → IntsAre mv.toList ((uldF n pk).1.map Int.ofNat) → CarriedAll vals'.toList ((uldF n pk).2.map encO) →
      (∀ p ∈ (pa, listOf vals' kk') :: (xl, listOf #[] kx') :: news, p.1 ≠ ml ∧ p.1 ≠ ta) → ml ≠ ta → R (.ok (.ret (.ref ta))) { s with heap := h', toks := tk }) :
    codeAny (model prog w) A (.call (.ref 28) ⟨[.ref xl, .ref pa], []⟩) R s := by
  have ff : (PySem.Challenge.rw_mr0034_01, hd.heap_39) = (PySem.Challenge.rw_mr0034_01, hd.heap_39) := by k_fill; rfl
  clear ff
  w_on
  refine callI F N cx.T.nolimit (cx.X.keeps F.keep _ _ (by k_is)) rfl (codeRec_of (cx.X.keeps F.keep) (by k_is)) (by rw [show recursionLimit = 1000 from rfl]; omega) (BindsTo.of_eq rfl) (locs rfl) (by decide +kernel) rfl rfl rfl ?_
  intro L' h₁ oL hL hLd F' N' st l1
  have cx' := cx.keeps st
  obtain ⟨X', T', C1, C2⟩ := id cx'
  simp only [List.cons_append, List.nil_append] at N' l1
  refine id ?_
  iterate 6 walk1
  rename_i ml hA1 lmA hA2 FA NA
  obtain ⟨mlx, mlp, mlr⟩ := lmA
  have mlr := allLt_mem mlr
  let m0 : Str → Option Value := fun y => if y = Str.ofString "missing" then some (.ref ml) else if y = Str.ofString "actual" then some (.ref pa) else if y = Str.ofString "expected" then some (.ref xl) else none
  let J : Nat → (Str → Option Value) → List (Addr × Obj) → Prop := fun i m₁ news₁ => ∃ (xs' : List Value) (kx' : Nat) (vals' : Array Value) (kk' : Nat) (mv : Array Value) (km : Nat) (sl : Array (Option Value)) (miss : List Nat) (left : List (Option Nat)) (u : Option Value),
    news₁ = (xl, listOf xs'.toArray kx') :: (pa, listOf vals' kk') :: (ml, listOf mv km) :: (news ++ [(L, { oL with slots := sl })]) ∧ IntsAre xs' ((List.range i).map Int.ofNat) ∧ CarriedAll vals'.toList (left.map encO) ∧ IntsAre mv.toList (miss.map Int.ofNat) ∧
    (List.range i).reverse.foldl uldStep (miss, left) = uldF n pk ∧ miss.length + i ≤ n ∧ left.length ≤ 1000 ∧ m₁ = (fun y => if y = Str.ofString "item" then u else m0 y)
  iterate 1 walk1
  refine While_inv2 J (n₀ := n) FA (news_sub NA (l' := (xl, listOf xs.toArray kx) :: (pa, listOf vals kk) :: (ml, listOf #[] 0) :: (news ++ [(L, oL)])) ?_) ⟨xs, kx, vals, kk, #[], 0, oL.slots, [], pk, none, rfl, hxs, hpk, .nil, rfl, by simp, hpl, ?_⟩ ?_
  · intro q hq
    simp only [List.mem_cons] at hq ⊢
    rcases hq with h | h | h | h <;> simp [h]
  · funext y
    by_cases h1 : y = Str.ofString "item"
    · subst h1; rfl
    by_cases h2 : y = Str.ofString "missing"
    · subst h2; rfl
    by_cases h3 : y = Str.ofString "actual"
    · subst h3; rfl
    by_cases h4 : y = Str.ofString "expected"
    · subst h4; rfl
    show (if y = Str.ofString "missing" then _ else List.lookup y [(Str.ofString "actual", Value.ref pa), (Str.ofString "expected", .ref xl)]) = _
    simp [h1, h2, h3, h4, m0, List.lookup, beq_eq_false_iff_ne.mpr h3, beq_eq_false_iff_ne.mpr h4]
  clear FA NA
  rintro i m₁ news₁ h₂ tk₂ F₂ N₂ ⟨xs', kx', vals', kk', mv, km, sl, miss, left, u, rfl, hxs', hvals', hmv, hfold, hmi, hlf, rfl⟩
  have hxl : xs'.length = i := by rw [hxs'.length]; simp
  have hvl : vals'.size = left.length := by rw [← Array.length_toList, hvals'.length_eq, List.length_map]
  have hml : mv.size = miss.length := by rw [← Array.length_toList, hmv.length, List.length_map]
  iterate 2 walk1
  refine wpAny_truthy_list (News.isList N₂ (.head _)) (by rw [List.size_toArray, hxl]; omega) ?_
  cases i with
  | zero =>
    obtain rfl : xs' = [] := List.eq_nil_of_length_eq_zero hxl
    simp only [List.isEmpty_toArray, List.isEmpty_nil, Bool.not_true, Bool.false_eq_true, if_false]
    iterate 9 walk1
    rename Fr _ _ _ _ => F3
    rename News _ _ _ _ => N3
    have lt3 : ∀ q ∈ (xl, listOf [].toArray kx') :: (pa, listOf vals' kk') :: (ml, listOf mv km) :: (news ++ [(L, { oL with slots := sl })]), q.1 < h₂.objs.size := fun q hq => Heap.lt_size (N3 q hq).1
    refine newTuple_N F3 N3 fun h4 F4 N4 => ?_
    clear F3 N3
    dsimp only
    have hLh : L < h₂.objs.size := lt3 _ (.tail _ (.tail _ (.tail _ (List.mem_append_right _ (.head _)))))
    obtain ⟨F5, N5⟩ := hidI_back (sl := sl) (news' := (h₂.objs.size, tup2 (.ref ml) (.ref pa)) :: (ml, listOf mv km) :: (pa, listOf vals' kk') :: (xl, listOf #[] kx') :: news) F N hL F4 (news_sub N4 (by
      intro q hq
      simp only [List.cons_append, List.mem_cons, List.mem_append, List.mem_nil_iff, or_false] at hq ⊢
      rcases hq with h | h | h | h | h | h <;> simp [h])) (by
      intro q hq
      simp only [List.mem_cons] at hq
      rcases hq with rfl | rfl | rfl | rfl | hq
      · exact Nat.ne_of_gt hLh
      · exact Nat.ne_of_gt (mlr _ (List.mem_append_right _ (.head _)))
      · exact (N _ (.tail _ (.head _))).2.1
      · exact (N _ (.head _)).2.1
      · exact (N q (.tail _ (.tail _ hq))).2.1)
    simp only [List.range_zero, List.reverse_nil, List.foldl_nil] at hfold
    refine k _ ml mv km vals' kk' kx' h4 _ F5 N5 (by rw [← hfold]; exact hmv) (by rw [← hfold]; exact hvals') ?_ (Nat.ne_of_lt (lt3 _ (.tail _ (.tail _ (.head _)))))
    intro q hq
    have hq' : ∀ r ∈ news, r.1 < ml := fun r hr => mlr r (List.mem_append_left _ hr)
    simp only [List.mem_cons] at hq
    rcases hq with rfl | rfl | hq
    · exact ⟨Nat.ne_of_lt mlp, Nat.ne_of_lt (lt3 _ (.tail _ (.head _)))⟩
    · exact ⟨Nat.ne_of_lt mlx, Nat.ne_of_lt (lt3 _ (.head _))⟩
    · exact ⟨Nat.ne_of_lt (hq' q hq), Nat.ne_of_lt (lt3 _ (.tail _ (.tail _ (.tail _ (List.mem_append_left _ hq)))))⟩
  | succ i =>
    have hne : (!xs'.toArray.isEmpty) = true := by
      cases xs' with
      | nil => cases hxl
      | cons _ _ => rfl
    rw [if_pos hne]
    iterate 5 walk1
    iterate 2 walk1
    have nxl : ∀ q ∈ (pa, listOf vals' kk') :: (ml, listOf mv km) :: (news ++ [(L, { oL with slots := sl })]), q.1 ≠ xl := by
      intro q hq
      simp only [List.mem_cons, List.mem_append, List.mem_nil_iff, or_false] at hq
      rcases hq with rfl | rfl | hq | rfl
      · exact hpx
      · exact Nat.ne_of_gt mlx
      · exact (hn q hq).1
      · exact Ne.symm (N _ (.head _)).2.1
    refine kpa_pop F₂ N₂ (Upd.head nxl) hxs' (by omega) (by rw [sizeLine_eq]; omega) ?_
    intro h3 t3 F3 N3 hxs3
    clear F₂ N₂
    have e1 : (List.map Int.ofNat (List.range (i + 1))).getLastD 0 = i := by rw [List.range_succ, List.map_append]; simp
    have e2 : (List.map Int.ofNat (List.range (i + 1))).dropLast = List.map Int.ofNat (List.range i) := by rw [List.range_succ, List.map_append]; simp
    rw [e1]
    rw [e2] at hxs3
    iterate 13 walk1
    rename Fr _ _ _ _ => F4
    rename News _ _ _ _ => N4
    by_cases hc : left.contains (some i) = true
    · refine rm_hit (its := vals') (n := kk') (pre := [(xl, listOf xs'.dropLast.toArray (kx' + 1))]) (post := (ml, listOf mv km) :: (news ++ [(L, { oL with slots := sl })])) F4 (by exact N4) ?_ ?_ hvals' hc hlf ?_
      · intro q hq
        obtain rfl := List.mem_singleton.mp hq
        exact Ne.symm hpx
      · intro q hq
        simp only [List.mem_cons, List.mem_append, List.mem_nil_iff, or_false] at hq
        rcases hq with rfl | hq | rfl
        · exact Nat.ne_of_gt mlp
        · exact (hn q hq).2
        · exact Ne.symm (N _ (.tail _ (.head _))).2.1
      intro h5 its5 F5 N5 hits5
      clear F4 N4
      iterate 2 walk1
      dsimp only
      iterate 1 walk1
      refine ⟨_, _, _, _, i, rfl, F5, N5, Nat.lt_succ_self i, xs'.dropLast, kx' + 1, its5, kk' + 1, mv, km, sl, miss, left.erase (some i), some (.int i t3), rfl, hxs3, hits5, hmv, ?_, by omega, ?_, ?_⟩
      · rw [← hfold, List.range_succ, List.reverse_append, List.reverse_singleton, List.singleton_append, List.foldl_cons]
        congr 1
        unfold uldStep
        rw [if_pos hc]
      · exact Nat.le_trans (List.length_erase_le) hlf
      · funext y
        by_cases hy : y = Str.ofString "item"
        · simp [hy]
        · simp [hy]
    · refine rm_miss (its := vals') (n := kk') (pre := [(xl, listOf xs'.dropLast.toArray (kx' + 1))]) (post := (ml, listOf mv km) :: (news ++ [(L, { oL with slots := sl })])) N4 hvals' (by simpa using hc) hh ?_
      intro h5 tk5 e5 hx5
      have Fs : TI.Frs [env] [(L, { oL with slots := sl })] := ⟨hek, hef, hLd, trivial⟩
      refine TLg.noted_new1 (new := (xl, listOf xs'.dropLast.toArray (kx' + 1)) :: (pa, listOf vals' kk') :: (ml, listOf mv km) :: news) hfr Fs hx5 F4 N4 ?_ ?_
      · exact ⟨Ne.symm (N _ (.head _)).2.1.symm, Ne.symm (N _ (.tail _ (.head _))).2.1.symm, Nat.ne_of_gt (mlr _ (List.mem_append_right _ (.head _))), allNe_of fun p hp => (N p (.tail _ (.tail _ hp))).2.1⟩
      intro h6 sl6 Fs6 H6
      clear F4 N4 hx5
      refine TT.HeldNA.land H6 ?_
      intro h7 H7
      clear H6
      refine TT.clause_hitTN H7 T' (by decide +kernel) t2 (by decide +kernel) (by decide +kernel) t5 ?_
      intro h8 F8 N8
      clear H7
      have N8 := news_sub (l' := (ml, listOf mv km) :: (xl, listOf xs'.dropLast.toArray (kx' + 1)) :: (pa, listOf vals' kk') :: (news ++ [(L, { oL with slots := sl6 })])) N8 (by
        intro q hq
        simp only [List.mem_cons, List.mem_append, List.mem_nil_iff, or_false] at hq ⊢
        rcases hq with h | h | h | h | h <;> simp [h])
      iterate 9 walk1
      rename Fr _ _ _ _ => F9
      rename News _ _ _ _ => N9
      refine append_K (news' := (ml, listOf (mv.push (.int i t3)) (km + 1)) :: (xl, listOf xs'.dropLast.toArray (kx' + 1)) :: (pa, listOf vals' kk') :: (news ++ [(L, { oL with slots := sl6 })])) F9 N9 (Upd.head ?_) ?_ (by rw [sizeLine_eq, hml]; omega)
      · intro q hq
        simp only [List.mem_cons] at hq
        rcases hq with rfl | rfl | hq
        · exact Nat.ne_of_lt mlx
        · exact Nat.ne_of_lt mlp
        · refine Nat.ne_of_lt ?_
          rcases List.mem_append.mp hq with hq | hq
          · exact mlr q (List.mem_append_left _ hq)
          · rw [List.mem_singleton.mp hq]; exact mlr (L, oL) (List.mem_append_right _ (.head _))
      intro h10 F10 N10
      clear F9 N9
      iterate 2 walk1
      refine ⟨_, _, _, (xl, listOf xs'.dropLast.toArray (kx' + 1)) :: (pa, listOf vals' kk') :: (ml, listOf (mv.push (.int i t3)) (km + 1)) :: (news ++ [(L, { oL with slots := sl6 })]), i, rfl, F10, news_sub N10 ?_, Nat.lt_succ_self i, xs'.dropLast, kx' + 1, vals', kk', mv.push (.int i t3), km + 1, sl6, miss ++ [i], left, some (.int i t3), rfl, hxs3, hvals', ?_, ?_, ?_, hlf, ?_⟩
      · intro q hq
        simp only [List.mem_cons, List.mem_append, List.mem_nil_iff, or_false] at hq ⊢
        rcases hq with h | h | h | h | h <;> simp [h]
      · rw [Array.toList_push, List.map_append]
        exact ints_snoc _ t3 hmv
      · rw [← hfold, List.range_succ, List.reverse_append, List.reverse_singleton, List.singleton_append, List.foldl_cons]
        congr 1
        unfold uldStep
        rw [if_neg (show ¬ (miss, left).2.contains (some i) = true from hc)]
      · rw [List.length_append, List.length_singleton]; omega
      · funext y
        by_cases hy : y = Str.ofString "item"
        · simp [hy]
        · simp [hy]
end
end Mine
end

section
open PySem PySem.W PyProof.Rows PySem.Calls
set_option maxRecDepth 100000
set_option maxHeartbeats 4000000
namespace Mine

/-- one stall of the walk down -/
def walkStep (ns : List Int) (st : List Nat × Nat) (x : Nat) : List Nat × Nat := if st.2 + ns.count (x : Int) = 0 then (st.1 ++ [x], 0) else (st.1, st.2 + ns.count (x : Int) - 1)
/-- the walk down: the stalls that stay free, and how many are left over -/
def walkF (n : Nat) (ns : List Int) : List Nat × Nat := (List.range n).reverse.foldl (walkStep ns) ([], 0)

theorem rangeDown (n : Nat) : Builtin.Range.rangeSize ((n : Int) - 1) (-1) (-1) = n := by
  unfold Builtin.Range.rangeSize
  by_cases h : n = 0
  · subst h; rfl
  · rw [if_neg (by decide), if_pos (by omega), show -(-1 : Int) = 1 from rfl, Int.ediv_one]
    omega
theorem smallDown (n : Nat) (hn : n ≤ 1000) : Builtin.Range.small ((n : Int) - 1) (-1) (-1) = true := by
  unfold Builtin.Range.small
  rw [rangeDown]
  simp [Builtin.Range.rangeFitsLong]
  omega

theorem wpAny_pyIter_down {prog : Program} {w : World} {A : Around} {E : Value → Shared → Prop} {s : Shared} {r : Addr} {n : Nat} {t u v : Tok} {Q : Value → Shared → Prop} (hr : IsRange s.heap r ((n : Int) - 1) (-1) (-1) t u v) (hn : n ≤ 1000)
    (hQ : Q (.ref s.heap.objs.size) { s with heap := s.heap.push { cls := .type "range_iterator", data := .fields #[rawInt ((n : Int) - 1), rawInt n, rawInt (-1)] } }) :
    wpAny (model prog w) A (pyIter (.ref r)) Q E s := by
  refine wpAny_pyIter_range hr (smallDown n hn) ?_
  rw [rangeDown]
  exact hQ
theorem canon2 {m₁ m0 : Str → Option Value} {a b : Str} {v : Value} (h : ∀ y, y ≠ a → y ≠ b → m₁ y = m0 y) (hb : m₁ b = some v) (hab : a ≠ b) : ∃ u1, m₁ = fun y => if y = a then u1 else if y = b then some v else m0 y := by
  refine ⟨m₁ a, funext fun y => ?_⟩
  by_cases h1 : y = a
  · simp [h1]
  by_cases h2 : y = b
  · rw [if_neg h1, if_pos h2, h2, hb]
  rw [if_neg h1, if_neg h2]; exact h y h1 h2

section
variable {prog : Program} {w : World} {A : Around} {s : Shared} {h₀ : Heap} {L : Addr} {m mg mb : Str → Option Value} {loose : List Str} {mean : ExcName → Option Value} {R : Result → Shared → Prop}

theorem walked_call {n : Nat} {wl : Addr} {ws : List Value} {ns : List Int} {kw : Nat} {t : Tok} {news : List (Addr × Obj)} (cx : Cx w loose mean mg mb h₀) (F : Fr h₀ L s.heap m)
    (N : News h₀ L s.heap ((wl, listOf ws.toArray kw) :: news)) (hws : IntsAre ws ns) (hnn : n ≤ 10) (hnl : ns.length ≤ 10) (hdep : A.depth < 600) (hh : A.handled = none)
    (k : ∀ ta fl nl fv kf h' tk, Fr h₀ L h' m → News h₀ L h' ((ta, tup2 (.ref fl) (.ref nl)) :: (nl, listOf (List.replicate ((walkF n ns).2 + ns.count (n : Int)) Value.none).toArray 0) :: (fl, listOf fv kf) :: (wl, listOf ws.toArray kw) :: news) → IntsAre fv.toList ((walkF n ns).1.map Int.ofNat) →
      (∀ p ∈ (wl, listOf ws.toArray kw) :: news, p.1 < fl) → fl < nl → nl < ta → R (.ok (.ret (.ref ta))) { s with heap := h', toks := tk }) :
    codeAny (model prog w) A (.call (.ref 54) ⟨[.ref wl, .int n t], []⟩) R s := by
  have ff : (PySem.Challenge.rw_mr0034_01, hd.heap_39) = (PySem.Challenge.rw_mr0034_01, hd.heap_39) := by k_fill; rfl
  clear ff
  w_on
  refine callP F N cx.T.nolimit (cx.X.keeps F.keep _ _ (by k_is)) rfl (codeRec_of (cx.X.keeps F.keep) (by k_is)) (by rw [show recursionLimit = 1000 from rfl]; omega) (BindsTo.of_eq rfl) (locs rfl) (by decide +kernel) rfl rfl rfl ?_
  intro L' h₁ F' N' st l1 _
  have cx' := cx.keeps st
  obtain ⟨X', T', C1, C2⟩ := id cx'
  refine id ?_
  iterate 5 walk1
  rename_i fl hA1 FA NA lmA
  obtain ⟨flw, flr⟩ := lmA
  have flr := allLt_mem flr
  iterate 6 walk1
  refine wpAny_For ?_ (by intro _; rfl)
  iterate 18 walk1
  rename Fr _ _ _ _ => F2
  rename News _ _ _ _ => N2
  rename IsRange _ _ _ _ _ _ _ _ => hr
  rename_i h3 tk3 _ _ _ _
  refine wpAny_pyIter_down hr (by omega) ?_
  let m0 : Str → Option Value := fun y => if y = Str.ofString "free" then some (.ref fl) else if y = Str.ofString "size" then some (.int n t) else if y = Str.ofString "wishes" then some (.ref wl) else none
  have FN4 := iter_push (s := { s with heap := h3, toks := tk3 }) (o := { cls := .type "range_iterator", data := .fields #[rawInt ((n : Int) - 1), rawInt n, rawInt (-1)] }) F2 N2
  have F4 := FN4.1
  have N4 := FN4.2.1
  have hI4 := FN4.2.2
  clear FN4
  obtain ⟨I, hI⟩ : ∃ I, I = h3.objs.size := ⟨_, rfl⟩
  dsimp only at F4 N4 hI4 ⊢
  rw [← hI] at N4 hI4 ⊢
  obtain ⟨m1, F4, hm1, tc0, htc0⟩ : ∃ m1, Fr (hid s.heap ((wl, listOf ws.toArray kw) :: news)) L' (h3.push { cls := .type "range_iterator", data := .fields #[rawInt ((n : Int) - 1), rawInt n, rawInt (-1)] }) m1 ∧ (∀ y, y ≠ Str.ofString "stall" → y ≠ Str.ofString "carried" → m1 y = m0 y) ∧ ∃ tc, m1 (Str.ofString "carried") = some (.int 0 tc) := by
    refine ⟨_, F4, fun y _ h2 => ?_, _, rfl⟩
    by_cases h3 : y = Str.ofString "free"
    · subst h3; rfl
    by_cases h4 : y = Str.ofString "size"
    · subst h4; rfl
    by_cases h5 : y = Str.ofString "wishes"
    · subst h5; rfl
    show (if y = Str.ofString "carried" then _ else if y = Str.ofString "free" then _ else List.lookup y [(Str.ofString "size", Value.int n t), (Str.ofString "wishes", .ref wl)]) = _
    simp [h2, h3, h4, h5, m0, List.lookup, beq_eq_false_iff_ne.mpr h4, beq_eq_false_iff_ne.mpr h5]
  let J : Nat → (Str → Option Value) → List (Addr × Obj) → Prop := fun i m₁ news₁ => ∃ (fv : Array Value) (kf : Nat) (fr : List Nat) (c : Nat),
    news₁ = (fl, listOf fv kf) :: (wl, listOf ws.toArray kw) :: news ∧ IntsAre fv.toList (fr.map Int.ofNat) ∧ (List.range (n - i)).reverse.foldl (walkStep ns) (fr, c) = walkF n ns ∧ fr.length ≤ i ∧ c ≤ 10 * i ∧
    (∀ y, y ≠ Str.ofString "stall" → y ≠ Str.ofString "carried" → m₁ y = m0 y) ∧ ∃ tc, m₁ (Str.ofString "carried") = some (.int c tc)
  have hJ0 : J 0 m1 ((fl, listOf #[] 0) :: (wl, listOf ws.toArray kw) :: news) := ⟨#[], 0, [], 0, rfl, .nil, rfl, Nat.le_refl _, Nat.le_refl _, hm1, tc0, htc0⟩
  refine for_gen (Walks.range (A := A.deeper _) hh I ((n : Int) - 1) (-1) n) ?_ F4 N4 hI4 J hJ0 (by passes_own) ?_ ?_ ?_ (fun _ => rfl)
  · simp only [Int.natCast_zero, Int.zero_mul, Int.add_zero, Int.sub_zero]
    rw [hI]
    exact Heap.get?_push_size _ rfl
  · intro i h hst; exact ⟨_, hst⟩
  · clear F4 N4 hI4 F2 N2
    rintro i v m₁ news₁ h tk1 oI hlt ⟨tv, rfl⟩ ⟨fv, kf, fr, c, rfl, hfv, hfold, hfr, hcc, hm, tc, htc⟩ hnI F₁ N₁
    obtain ⟨u1, rfl⟩ := canon2 hm htc (by decide)
    clear hm htc hJ0 htc0 hm1
    obtain ⟨k0, hk0⟩ : ∃ k0, n - i = k0 + 1 := ⟨n - i - 1, by omega⟩
    have e0 : (n : Int) - 1 + (i : Nat) * -1 = (k0 : Int) := by omega
    rw [e0]
    rw [hk0, List.range_succ, List.reverse_append, List.reverse_singleton, List.singleton_append, List.foldl_cons] at hfold
    iterate 14 walk1
    rename Fr _ _ _ _ => F5
    rename News _ _ _ _ => N5
    refine count_list_ints (News.isList N5 (.tail _ (.tail _ (.head _)))) hws ?_
    iterate 8 walk1
    rename Fr _ _ _ _ => F6
    rename News _ _ _ _ => N6
    have hcnt : ns.count (k0 : Int) ≤ 10 := Nat.le_trans List.count_le_length hnl
    refine wpAny_truthy_bool ?_
    by_cases hz : c + ns.count (k0 : Int) = 0
    · rw [if_pos (by rw [beq_iff_eq]; omega)]
      have N6 := news_sub (l' := (fl, listOf fv kf) :: (I, oI) :: (wl, listOf ws.toArray kw) :: news) N6 (by
        intro q hq
        simp only [List.mem_cons] at hq ⊢
        rcases hq with h | h | h | h <;> simp [h])
      iterate 9 walk1
      rename Fr _ _ _ _ => F7
      rename News _ _ _ _ => N7
      have hfl : fv.size = fr.length := by rw [← Array.length_toList, hfv.length, List.length_map]
      refine append_K (news' := (fl, listOf (fv.push (.int k0 tv)) (kf + 1)) :: (I, oI) :: (wl, listOf ws.toArray kw) :: news) F7 N7 (Upd.head ?_) ?_ (by rw [sizeLine_eq, hfl]; omega)
      · intro q hq
        simp only [List.mem_cons] at hq
        rcases hq with rfl | rfl | hq
        · exact Ne.symm (hnI (fl, listOf fv kf) (.head _))
        · exact Nat.ne_of_lt flw
        · exact Nat.ne_of_lt (flr q hq)
      intro h8 F8 N8
      clear F7 N7
      iterate 2 walk1
      refine ⟨_, _, _, (fl, listOf (fv.push (.int k0 tv)) (kf + 1)) :: (wl, listOf ws.toArray kw) :: news, rfl, F8, news_sub N8 ?_, ?_, ?_, fv.push (.int k0 tv), kf + 1, fr ++ [k0], 0, rfl, ?_, ?_, ?_, Nat.zero_le _, ?_, ?_⟩
      · intro q hq
        simp only [List.mem_cons] at hq ⊢
        rcases hq with h | h | h | h <;> simp [h]
      · intro q hq
        rcases List.mem_cons.mp hq with rfl | hq
        · exact hnI (fl, listOf fv kf) (.head _)
        · exact hnI q (.tail _ hq)
      · intro b hb hbI
        exact absurd (by simpa using hb) hbI
      · rw [Array.toList_push, List.map_append]
        exact ints_snoc _ tv hfv
      · rw [← hfold, show n - (i + 1) = k0 by omega]
        congr 1
        unfold walkStep
        rw [if_pos (show (fr, c).2 + ns.count (k0 : Int) = 0 from hz)]
      · rw [List.length_append, List.length_singleton]; omega
      · intro y h1 h2
        simp [h1, h2]
      · rw [show ((0 : Nat) : Int) = (c : Int) + (ns.count (k0 : Int) : Nat) by omega]
        exact ⟨_, rfl⟩
    · rw [if_neg (by rw [beq_iff_eq]; omega)]
      iterate 8 walk1
      dsimp only
      iterate 3 walk1
      rename Fr _ _ _ _ => F8
      rename News _ _ _ _ => N8
      refine ⟨_, _, _, (fl, listOf fv kf) :: (wl, listOf ws.toArray kw) :: news, rfl, F8, N8, hnI, ?_, fv, kf, fr, c + ns.count (k0 : Int) - 1, rfl, hfv, ?_, by omega, by omega, ?_, ?_⟩
      · intro b hb hbI
        exact absurd (by simpa using hb) hbI
      · rw [← hfold, show n - (i + 1) = k0 by omega]
        congr 1
        unfold walkStep
        rw [if_neg (show ¬ (fr, c).2 + ns.count (k0 : Int) = 0 from hz)]
      · intro y h1 h2
        simp [h1, h2]
      · rw [show ((c + ns.count (k0 : Int) - 1 : Nat) : Int) = (c : Int) + (ns.count (k0 : Int) : Nat) - 1 by omega]
        exact ⟨_, rfl⟩
  · clear F4 N4 hI4 F2 N2
    rintro h tk1 m₁ news₁ ⟨fv, kf, fr, c, rfl, hfv, hfold, hfr, hcc, hm, tc, htc⟩ F₁ N₁
    obtain ⟨u1, rfl⟩ := canon2 hm htc (by decide)
    clear hm htc hJ0 htc0 hm1
    rw [Nat.sub_self] at hfold
    simp only [List.range_zero, List.reverse_nil, List.foldl_nil] at hfold
    iterate 21 walk1
    rename Fr _ _ _ _ => F5
    rename News _ _ _ _ => N5
    refine count_list_ints (News.isList N5 (.tail _ (.tail _ (.head _)))) hws ?_
    iterate 1 walk1
    have hcnt : ns.count (n : Int) ≤ 10 := Nat.le_trans List.count_le_length hnl
    have ec : ((c : Int) + (ns.count (n : Int) : Nat)).toNat = (walkF n ns).2 + ns.count (n : Int) := by rw [← hfold]; dsimp only; omega
    refine KMa.mul F5 N5 (News.isList N5 (.head _)) (by omega) (by omega) ?_ (ws := List.replicate ((walkF n ns).2 + ns.count (n : Int)) Value.none) ?_ ?_
    · rw [ec, ← hfold]
      show 1 * (c + _) ≤ 256
      omega
    · rw [ec]
      show (List.replicate _ [Value.none]).flatten = _
      rw [List.flatten_replicate_singleton]
    intro D h6 F6 N6 lt6
    clear F5 N5
    iterate 1 walk1
    refine newTuple_N F6 N6 fun h7 F7 N7 => ?_
    dsimp only
    have lt7 : D < h6.objs.size := Heap.lt_size (N6 _ (.head _)).1
    obtain ⟨F8, N8⟩ := hid_back (news' := (h6.objs.size, tup2 (.ref fl) (.ref D)) :: (D, listOf (List.replicate ((walkF n ns).2 + ns.count (n : Int)) Value.none).toArray 0) :: (fl, listOf fv kf) :: (wl, listOf ws.toArray kw) :: news) F N F7 (news_sub N7 (by
      intro q hq
      simp only [List.mem_cons] at hq ⊢
      rcases hq with h | h | h | h | h <;> simp [h]))
    refine k _ fl D fv kf h7 _ F8 N8 (by rw [← hfold]; exact hfv) ?_ (lt6 _ (.tail _ (.head _))) lt7
    intro q hq
    rcases List.mem_cons.mp hq with rfl | hq
    · exact flw
    · exact flr q hq
end
end Mine
end

section
open PySem PySem.W PyProof.Rows PySem.Calls
set_option maxRecDepth 100000
set_option maxHeartbeats 4000000
namespace Mine

/-- the sums, from the number behind the stalls down -/
def sumStep (ns : List Int) (st : List Int) (x : Nat) : List Int := st ++ [st.getLastD 0 + (ns.count (x : Int) : Nat) - 1]
def sumsF (n : Nat) (ns : List Int) : List Int := (List.range n).reverse.foldl (sumStep ns) [(ns.count (n : Int) : Nat) - 1]

theorem canon1 {m₁ m0 : Str → Option Value} {a : Str} (h : ∀ y, y ≠ a → m₁ y = m0 y) : ∃ u1, m₁ = fun y => if y = a then u1 else m0 y := by
  refine ⟨m₁ a, funext fun y => ?_⟩
  by_cases h1 : y = a
  · simp [h1]
  rw [if_neg h1]; exact h y h1
theorem kf_ints_of : ∀ {vs : List Value} {ns : List Int}, IntsAre vs ns → kf_ints vs = true
  | _, _, .nil => rfl
  | _, _, .cons (vs := vs) _ _ r => show kf_ints vs = true from kf_ints_of r
theorem kf_at_of (k : Int) : ∀ {vs : List Value} {ns : List Int}, IntsAre vs ns → k ∈ ns → kf_at k vs = some (ns.idxOf k)
  | _, _, .nil, h => nomatch h
  | _, _, .cons (vs := vs) (ns := ns) a t r, h => by
    show cond (a == k) (some 0) (match kf_at k vs with | some j => some (j + 1) | none => none) = _
    by_cases e : a = k
    · subst e
      simp
    · have hk : k ∈ ns := by
        rcases List.mem_cons.mp h with q | q
        · exact absurd q.symm e
        · exact q
      rw [kf_at_of k r hk, List.idxOf_cons, show (a == k) = false by simpa using e]
      rfl
theorem index_ints_fit {prog : Program} {w : World} {A : Around} {E : Value → Shared → Prop} {s : Shared} {h₀ : Heap} {L D : Addr} {news : List (Addr × Obj)} {its : Array Value} {c : Nat} {ns : List Int} {k : Int} {t : Tok} {Q : Value → Shared → Prop} (N : News h₀ L s.heap news) (hm : (D, listOf its c) ∈ news) (hi : IntsAre its.toList ns)
    (hb : ns.length ≤ 1000) (hk : k ∈ ns) (h : Q (.int (ns.idxOf k : Nat) s.toks) { s with toks := s.toks + 1 }) :
    wpAny (model prog w) A (call (.builtin "list.index") [.ref D, .int k t]) Q E s :=
  kf_index N hm (kf_ints_of hi) (kf_at_of k hi hk) rfl (by rw [sizeLine_eq, hi.length]; omega) h

section
variable {prog : Program} {w : World} {A : Around} {s : Shared} {h₀ : Heap} {L : Addr} {m mg mb : Str → Option Value} {loose : List Str} {mean : ExcName → Option Value} {R : Result → Shared → Prop}

theorem full_call {n : Nat} {wl : Addr} {ws : List Value} {ns : List Int} {kw : Nat} {t : Tok} {news : List (Addr × Obj)} (cx : Cx w loose mean mg mb h₀) (F : Fr h₀ L s.heap m)
    (N : News h₀ L s.heap ((wl, listOf ws.toArray kw) :: news)) (hws : IntsAre ws ns) (hnn : n ≤ 10) (hnl : ns.length ≤ 10) (hdep : A.depth < 600) (hh : A.handled = none)
    (k : ∀ (M : Int) h' tk t', M ∈ sumsF n ns → (∀ a, a ∈ sumsF n ns → M ≤ a) → Fr h₀ L h' m → News h₀ L h' ((wl, listOf ws.toArray kw) :: news) →
      R (.ok (.ret (.int ((sumsF n ns).idxOf M : Nat) t'))) { s with heap := h', toks := tk }) :
    codeAny (model prog w) A (.call (.ref 61) ⟨[.ref wl, .int n t], []⟩) R s := by
  have ff : (PySem.Challenge.rw_mr0034_01, hd.heap_39) = (PySem.Challenge.rw_mr0034_01, hd.heap_39) := by k_fill; rfl
  clear ff
  w_on
  refine callP F N cx.T.nolimit (cx.X.keeps F.keep _ _ (by k_is)) rfl (codeRec_of (cx.X.keeps F.keep) (by k_is)) (by rw [show recursionLimit = 1000 from rfl]; omega) (BindsTo.of_eq rfl) (locs rfl) (by decide +kernel) rfl rfl rfl ?_
  intro L' h₁ F' N' st l1 _
  have cx' := cx.keeps st
  obtain ⟨X', T', C1, C2⟩ := id cx'
  refine id ?_
  iterate 12 walk1
  refine count_list_ints (News.isList N' (.head _)) hws ?_
  iterate 4 walk1
  rename_i sl hA1 FA NA lmA
  obtain ⟨slw, slr⟩ := lmA
  have slr := allLt_mem slr
  iterate 2 walk1
  refine wpAny_For ?_ (by intro _; rfl)
  iterate 18 walk1
  rename Fr _ _ _ _ => F2
  rename News _ _ _ _ => N2
  rename IsRange _ _ _ _ _ _ _ _ => hr
  rename_i h3 tk3 _ _ _ _
  refine wpAny_pyIter_down hr (by omega) ?_
  obtain ⟨sv0, N2, hsv0⟩ : ∃ sv : Array Value, News (hid s.heap ((wl, listOf ws.toArray kw) :: news)) L' h3 ((sl, listOf sv 0) :: (wl, listOf ws.toArray kw) :: news) ∧ IntsAre sv.toList [(ns.count (n : Int) : Nat) - 1] := ⟨_, N2, .cons _ _ .nil⟩
  let m0 : Str → Option Value := fun y => if y = Str.ofString "sums" then some (.ref sl) else if y = Str.ofString "size" then some (.int n t) else if y = Str.ofString "wishes" then some (.ref wl) else none
  have FN4 := iter_push (s := { s with heap := h3, toks := tk3 }) (o := { cls := .type "range_iterator", data := .fields #[rawInt ((n : Int) - 1), rawInt n, rawInt (-1)] }) F2 N2
  have F4 := FN4.1
  have N4 := FN4.2.1
  have hI4 := FN4.2.2
  clear FN4
  obtain ⟨I, hI⟩ : ∃ I, I = h3.objs.size := ⟨_, rfl⟩
  dsimp only at F4 N4 hI4 ⊢
  rw [← hI] at N4 hI4 ⊢
  obtain ⟨m1, F4, hm1⟩ : ∃ m1, Fr (hid s.heap ((wl, listOf ws.toArray kw) :: news)) L' (h3.push { cls := .type "range_iterator", data := .fields #[rawInt ((n : Int) - 1), rawInt n, rawInt (-1)] }) m1 ∧ (∀ y, y ≠ Str.ofString "stall" → m1 y = m0 y) := by
    refine ⟨_, F4, fun y _ => ?_⟩
    by_cases h3 : y = Str.ofString "sums"
    · subst h3; rfl
    by_cases h4 : y = Str.ofString "size"
    · subst h4; rfl
    by_cases h5 : y = Str.ofString "wishes"
    · subst h5; rfl
    show (if y = Str.ofString "sums" then _ else List.lookup y [(Str.ofString "size", Value.int n t), (Str.ofString "wishes", .ref wl)]) = _
    simp [h3, h4, h5, m0, List.lookup, beq_eq_false_iff_ne.mpr h4, beq_eq_false_iff_ne.mpr h5]
  let J : Nat → (Str → Option Value) → List (Addr × Obj) → Prop := fun i m₁ news₁ => ∃ (sv : Array Value) (ks : Nat) (sm : List Int),
    news₁ = (sl, listOf sv ks) :: (wl, listOf ws.toArray kw) :: news ∧ IntsAre sv.toList sm ∧ (List.range (n - i)).reverse.foldl (sumStep ns) sm = sumsF n ns ∧ sm.length = i + 1 ∧
    (∀ y, y ≠ Str.ofString "stall" → m₁ y = m0 y)
  have hJ0 : J 0 m1 ((sl, listOf sv0 0) :: (wl, listOf ws.toArray kw) :: news) := ⟨sv0, 0, _, rfl, hsv0, rfl, rfl, hm1⟩
  refine for_gen (Walks.range (A := A.deeper _) hh I ((n : Int) - 1) (-1) n) ?_ F4 N4 hI4 J hJ0 (by passes_own) ?_ ?_ ?_ (fun _ => rfl)
  · simp only [Int.natCast_zero, Int.zero_mul, Int.add_zero, Int.sub_zero]
    rw [hI]
    exact Heap.get?_push_size _ rfl
  · intro i h hst; exact ⟨_, hst⟩
  · clear F4 N4 hI4 F2 N2
    rintro i v m₁ news₁ h tk1 oI hlt ⟨tv, rfl⟩ ⟨sv, ks, sm, rfl, hsv, hfold, hsl, hm⟩ hnI F₁ N₁
    obtain ⟨u1, rfl⟩ := canon1 hm
    clear hm hJ0 hm1
    obtain ⟨k0, hk0⟩ : ∃ k0, n - i = k0 + 1 := ⟨n - i - 1, by omega⟩
    have e0 : (n : Int) - 1 + (i : Nat) * -1 = (k0 : Int) := by omega
    rw [e0]
    rw [hk0, List.range_succ, List.reverse_append, List.reverse_singleton, List.singleton_append, List.foldl_cons] at hfold
    have N₁ := news_sub (l' := (sl, listOf sv ks) :: (I, oI) :: (wl, listOf ws.toArray kw) :: news) N₁ (by
        intro q hq
        simp only [List.mem_cons] at hq ⊢
        rcases hq with h | h | h | h <;> simp [h])
    iterate 17 walk1
    rename Fr _ _ _ _ => F5
    rename News _ _ _ _ => N5
    have hsv5 : ∀ (s5 : Shared) (N : News (hid s.heap ((wl, listOf ws.toArray kw) :: news)) L' s5.heap ((sl, listOf sv ks) :: (I, oI) :: (wl, listOf ws.toArray kw) :: news)), s5.heap.IsList sl sv.toList.toArray := fun s5 N => ⟨_, (N _ (.head _)).1, rfl, ks, by simp⟩
    refine item_list_ints_neg (hsv5 _ N5) hsv (by decide) (by omega) (by decide) ?_ (by with_unfolding_all rfl) (by intro _; with_unfolding_all rfl)
    intro t6
    iterate 7 walk1
    refine count_list_ints (News.isList N5 (.tail _ (.tail _ (.head _)))) hws ?_
    iterate 4 walk1
    rename Fr _ _ _ _ => F7
    rename News _ _ _ _ => N7
    have hsz : sv.size = i + 1 := by rw [← Array.length_toList, hsv.length, hsl]
    have elast : sm.getD ((-1 : Int) + (sm.length : Int)).toNat 0 = sm.getLastD 0 := by
      rw [hsl, show ((-1 : Int) + ((i + 1 : Nat) : Int)).toNat = i by omega]
      cases sm with
      | nil => cases hsl
      | cons a r =>
        rw [List.getLastD_eq_getLast?, List.getLast?_eq_getElem?, hsl]
        simp
    rw [elast]
    refine append_K (news' := (sl, listOf (sv.push (.int (sm.getLastD 0 + (ns.count (k0 : Int) : Nat) - 1) _)) (ks + 1)) :: (I, oI) :: (wl, listOf ws.toArray kw) :: news) F7 N7 (Upd.head ?_) ?_ (by rw [sizeLine_eq, hsz]; omega)
    · intro q hq
      simp only [List.mem_cons] at hq
      rcases hq with rfl | rfl | hq
      · exact Ne.symm (hnI (sl, listOf sv ks) (.head _))
      · exact Nat.ne_of_lt slw
      · exact Nat.ne_of_lt (slr q hq)
    intro h8 F8 N8
    clear F7 N7
    iterate 1 walk1
    obtain ⟨sv', N8, hsv'⟩ : ∃ sv' : Array Value, News (hid s.heap ((wl, listOf ws.toArray kw) :: news)) L' h8 ((sl, listOf sv' (ks + 1)) :: (I, oI) :: (wl, listOf ws.toArray kw) :: news) ∧ IntsAre sv'.toList (sm ++ [sm.getLastD 0 + (ns.count (k0 : Int) : Nat) - 1]) :=
      ⟨_, N8, by rw [Array.toList_push]; exact ints_snoc _ _ hsv⟩
    refine ⟨_, _, _, (sl, listOf sv' (ks + 1)) :: (wl, listOf ws.toArray kw) :: news, rfl, F8, news_sub N8 ?_, ?_, ?_, sv', ks + 1, sm ++ [sm.getLastD 0 + (ns.count (k0 : Int) : Nat) - 1], rfl, hsv', ?_, ?_, ?_⟩
    · intro q hq
      simp only [List.mem_cons] at hq ⊢
      rcases hq with h | h | h | h <;> simp [h]
    · intro q hq
      rcases List.mem_cons.mp hq with rfl | hq
      · exact hnI (sl, listOf sv ks) (.head _)
      · exact hnI q (.tail _ hq)
    · intro b hb hbI
      exact absurd (by simpa using hb) hbI
    · rw [← hfold, show n - (i + 1) = k0 by omega]
      rfl
    · rw [List.length_append, List.length_singleton]; omega
    · intro y h1
      simp [h1]
  · clear F4 N4 hI4 F2 N2
    rintro h tk1 m₁ news₁ ⟨sv, ks, sm, rfl, hsv, hfold, hsl, hm⟩ F₁ N₁
    obtain ⟨u1, rfl⟩ := canon1 hm
    clear hm hJ0 hm1
    rw [Nat.sub_self] at hfold
    simp only [List.range_zero, List.reverse_nil, List.foldl_nil] at hfold
    subst hfold
    iterate 13 walk1
    rename Fr _ _ _ _ => F5
    rename News _ _ _ _ => N5
    have hlst : ∀ (h5 : Heap) (N : News (hid s.heap ((wl, listOf ws.toArray kw) :: news)) L' h5 ((sl, listOf sv ks) :: (wl, listOf ws.toArray kw) :: news)), h5.IsList sl sv.toList.toArray := fun h5 N => ⟨_, (N _ (.head _)).1, rfl, ks, by simp⟩
    refine min_list_N hh F5 N5 (hlst _ N5) hsv (by omega) ?_
    intro h6 M t6 tk6 F6 N6 hM1 hM2
    clear F5 N5
    iterate 1 walk1
    refine index_ints_fit N6 (.head _) hsv (by omega) hM1 ?_
    dsimp only
    obtain ⟨F8, N8⟩ := hid_back F N F6 N6
    exact k M h6 _ _ hM1 hM2 F8 (news_sub N8 fun q hq => .tail _ hq)
end
end Mine
end

section
open PySem PySem.W PyProof.Rows PySem.Calls
set_option maxRecDepth 10000
namespace Mine

/-- the walk down, as a recursion: the free stalls, falling, and who is left over -/
def wk (cnt : Nat → Nat) : Nat → Nat → List Nat × Nat
  | 0, c => ([], c)
  | k + 1, c => if c + cnt k = 0 then (k :: (wk cnt k 0).1, (wk cnt k 0).2) else wk cnt k (c + cnt k - 1)
abbrev cn (ns : List Int) (x : Nat) : Nat := ns.count (x : Int)

theorem range_rev (k : Nat) : (List.range (k + 1)).reverse = k :: (List.range k).reverse := by
  rw [List.range_succ, List.reverse_append, List.reverse_singleton, List.singleton_append]
theorem walk_wk (ns : List Int) : ∀ (k : Nat) (fr : List Nat) (c : Nat), (List.range k).reverse.foldl (walkStep ns) (fr, c) = (fr ++ (wk (cn ns) k c).1, (wk (cn ns) k c).2)
  | 0, fr, c => by simp [wk]
  | k + 1, fr, c => by
    rw [range_rev, List.foldl_cons, show walkStep ns (fr, c) k = (if c + cn ns k = 0 then (fr ++ [k], 0) else (fr, c + cn ns k - 1)) from rfl]
    conv => rhs; unfold wk
    by_cases h : c + cn ns k = 0
    · rw [if_pos h, if_pos h, walk_wk ns k]
      simp
    · rw [if_neg h, if_neg h, walk_wk ns k]
theorem walkF_wk (n : Nat) (ns : List Int) : walkF n ns = wk (cn ns) n 0 := by
  unfold walkF
  rw [walk_wk]
  simp
theorem wk_lt (cnt : Nat → Nat) : ∀ (k c : Nat), ∀ x ∈ (wk cnt k c).1, x < k
  | 0, c, x, h => by simp [wk] at h
  | k + 1, c, x, h => by
    unfold wk at h
    split at h
    · rcases List.mem_cons.mp h with rfl | h
      · exact Nat.lt_succ_self _
      · exact Nat.lt_succ_of_lt (wk_lt cnt k _ x h)
    · exact Nat.lt_succ_of_lt (wk_lt cnt k _ x h)
theorem wk_falls (cnt : Nat → Nat) : ∀ (k c : Nat), (wk cnt k c).1.Pairwise (· > ·)
  | 0, c => by simp [wk]
  | k + 1, c => by
    unfold wk
    split
    · exact List.pairwise_cons.mpr ⟨fun x hx => wk_lt cnt k _ x hx, wk_falls cnt k _⟩
    · exact wk_falls cnt k _
theorem wk_congr {cnt cnt' : Nat → Nat} : ∀ (k c : Nat), (∀ x, x < k → cnt' x = cnt x) → wk cnt' k c = wk cnt k c
  | 0, c, _ => rfl
  | k + 1, c, h => by
    unfold wk
    rw [h k (Nat.lt_succ_self _), wk_congr k _ fun x hx => h x (Nat.lt_succ_of_lt hx), wk_congr k _ fun x hx => h x (Nat.lt_succ_of_lt hx)]
/-- one more carried -/
theorem wk_more (cnt : Nat → Nat) : ∀ (k c : Nat), wk cnt k (c + 1) = ((wk cnt k c).1.tail, (wk cnt k c).2 + if (wk cnt k c).1 = [] then 1 else 0)
  | 0, c => by simp [wk]
  | k + 1, c => by
    unfold wk
    rw [if_neg (by omega)]
    by_cases h : c + cnt k = 0
    · rw [if_pos h, show c + 1 + cnt k - 1 = 0 by omega]
      simp
    · rw [if_neg h, show c + 1 + cnt k - 1 = (c + cnt k - 1) + 1 by omega]
      exact wk_more cnt k _
/-- one more wishes for w -/
theorem wk_add {cnt cnt' : Nat → Nat} {w : Nat} (hw : cnt' w = cnt w + 1) (ho : ∀ x, x ≠ w → cnt' x = cnt x) : ∀ (k c : Nat), w < k →
    wk cnt' k c = ((wk cnt k c).1.eraseP (fun f => decide (f ≤ w)), (wk cnt k c).2 + if (wk cnt k c).1.any (fun f => decide (f ≤ w)) then 0 else 1)
  | 0, c, h => absurd h (Nat.not_lt_zero _)
  | k + 1, c, h => by
    by_cases hk : k = w
    · subst hk
      have hb : ∀ c, wk cnt' k c = wk cnt k c := fun c => wk_congr k c fun x hx => ho x (Nat.ne_of_lt hx)
      rw [show wk cnt' (k + 1) c = wk cnt k (c + cnt k) by
        conv => lhs; unfold wk
        rw [hw, if_neg (by omega), hb]
        congr 1]
      conv => rhs; unfold wk
      by_cases h0 : c + cnt k = 0
      · rw [if_pos h0, h0]
        simp
      · rw [if_neg h0, show c + cnt k = (c + cnt k - 1) + 1 by omega, wk_more, show c + cnt k - 1 + 1 - 1 = c + cnt k - 1 by omega]
        have hl := wk_lt cnt k (c + cnt k - 1)
        cases e : (wk cnt k (c + cnt k - 1)).1 with
        | nil => simp
        | cons f r =>
          have hf : f ≤ k := Nat.le_of_lt (hl f (by rw [e]; exact .head _))
          rw [List.eraseP_cons_of_pos (by simpa using hf)]
          simp [hf]
    · have hlt : w < k := by omega
      unfold wk
      rw [ho k hk]
      by_cases h0 : c + cnt k = 0
      · rw [if_pos h0, if_pos h0, wk_add hw ho k 0 hlt, List.eraseP_cons_of_neg (by simpa using hlt)]
        simp [show ¬ k ≤ w by omega]
      · rw [if_neg h0, if_neg h0]
        exact wk_add hw ho k _ hlt

/-- a falling list is told by its members -/
theorem falls_eq : ∀ (k : Nat) (l : List Nat), l.Pairwise (· > ·) → (∀ x ∈ l, x < k) → l = (List.range k).reverse.filter (fun x => l.contains x)
  | 0, l, _, h => by
    cases l with
    | nil => rfl
    | cons a r => exact absurd (h a (.head _)) (Nat.not_lt_zero _)
  | k + 1, l, hp, h => by
    rw [range_rev]
    by_cases hk : k ∈ l
    · cases l with
      | nil => cases hk
      | cons a r =>
        have ha : a = k := by
          rcases List.mem_cons.mp hk with q | q
          · exact q.symm
          · have := (List.pairwise_cons.mp hp).1 k q
            have := h a (.head _)
            omega
        subst ha
        have hr : ∀ x ∈ r, x < a := fun x hx => (List.pairwise_cons.mp hp).1 x hx
        have ih := falls_eq a r (List.pairwise_cons.mp hp).2 hr
        rw [List.filter_cons_of_pos (by simp)]
        congr 1
        conv => lhs; rw [ih]
        refine List.filter_congr fun x hx => ?_
        have : x < a := by simpa using hx
        rw [List.contains_cons, show (x == a) = false by simpa using Nat.ne_of_lt this, Bool.false_or]
    · rw [List.filter_cons_of_neg (by simpa using hk)]
      exact falls_eq k l hp fun x hx => by
        have := h x hx
        have : x ≠ k := fun q => hk (q ▸ hx)
        omega

/-- what the drivers got, against the walk down -/
structure Parks (n : Nat) (l : List Int) (pk : List (Option Nat)) : Prop where
  mem : ∀ p, p < n → (p ∈ (wk (cn l) n 0).1 ↔ some p ∉ pk)
  lt : ∀ p, some p ∈ pk → p < n
  once : ∀ p, pk.count (some p) ≤ 1
  gone : pk.count none = (wk (cn l) n 0).2 + l.count (n : Int)

theorem falls_find (w : Nat) : ∀ (l : List Nat), l.Pairwise (· > ·) → ∀ f, l.find? (fun f => decide (f ≤ w)) = some f → f ∈ l ∧ f ≤ w ∧ ∀ q ∈ l, q ≤ w → q ≤ f
  | [], _, f, h => by cases h
  | a :: r, hp, f, h => by
    by_cases ha : a ≤ w
    · rw [List.find?_cons_of_pos (by simpa using ha)] at h
      obtain rfl := Option.some.inj h
      refine ⟨.head _, ha, fun q hq _ => ?_⟩
      rcases List.mem_cons.mp hq with rfl | hq
      · exact Nat.le_refl _
      · exact Nat.le_of_lt ((List.pairwise_cons.mp hp).1 q hq)
    · rw [List.find?_cons_of_neg (by simpa using ha)] at h
      obtain ⟨h1, h2, h3⟩ := falls_find w r (List.pairwise_cons.mp hp).2 f h
      refine ⟨.tail _ h1, h2, fun q hq hw => ?_⟩
      rcases List.mem_cons.mp hq with rfl | hq
      · exact absurd hw ha
      · exact h3 q hq hw
theorem falls_erase (w : Nat) : ∀ (l : List Nat), l.Pairwise (· > ·) → ∀ f, l.find? (fun f => decide (f ≤ w)) = some f → ∀ p, p ∈ l.eraseP (fun f => decide (f ≤ w)) ↔ p ∈ l ∧ p ≠ f
  | [], _, f, h => by cases h
  | a :: r, hp, f, h => by
    intro p
    by_cases ha : a ≤ w
    · rw [List.find?_cons_of_pos (by simpa using ha)] at h
      obtain rfl := Option.some.inj h
      rw [List.eraseP_cons_of_pos (by simpa using ha)]
      constructor
      · intro hq; exact ⟨.tail _ hq, Nat.ne_of_lt ((List.pairwise_cons.mp hp).1 p hq)⟩
      · rintro ⟨hq, hne⟩
        rcases List.mem_cons.mp hq with rfl | hq
        · exact absurd rfl hne
        · exact hq
    · rw [List.find?_cons_of_neg (by simpa using ha)] at h
      rw [List.eraseP_cons_of_neg (by simpa using ha)]
      have ih := falls_erase w r (List.pairwise_cons.mp hp).2 f h p
      have hfr := (falls_find w r (List.pairwise_cons.mp hp).2 f h).1
      constructor
      · intro hq
        rcases List.mem_cons.mp hq with rfl | hq
        · exact ⟨.head _, Nat.ne_of_gt ((List.pairwise_cons.mp hp).1 f hfr)⟩
        · exact ⟨.tail _ (ih.mp hq).1, (ih.mp hq).2⟩
      · rintro ⟨hq, hne⟩
        rcases List.mem_cons.mp hq with rfl | hq
        · exact .head _
        · exact .tail _ (ih.mpr ⟨hq, hne⟩)

theorem parks_snoc {n : Nat} {l : List Int} {pk : List (Option Nat)} (P : Parks n l pk) {w : Nat} (hw : w ≤ n) : Parks n (l ++ [(w : Int)]) (pk ++ [lastFree n pk (Int.fmod ((w : Int) + 1) ((n : Int) + 1))]) := by
  have hcw : cn (l ++ [(w : Int)]) w = cn l w + 1 := by simp [cn]
  have hco : ∀ x, x ≠ w → cn (l ++ [(w : Int)]) x = cn l x := fun x hx => by
    simp only [cn, List.count_append]
    rw [List.count_singleton, if_neg (by simp; omega)]
    rfl
  by_cases hn : w = n
  · subst hn
    have hc : Int.fmod ((w : Int) + 1) ((w : Int) + 1) = 0 := Int.fmod_self
    rw [hc]
    have hl : lastFree w pk 0 = none := lastFree_none fun p _ _ q => by omega
    rw [hl]
    have hwk : wk (cn (l ++ [(w : Int)])) w 0 = wk (cn l) w 0 := wk_congr w 0 fun x hx => hco x (Nat.ne_of_lt hx)
    refine ⟨fun p hp => ?_, fun p hp => ?_, fun p => ?_, ?_⟩
    · rw [hwk, P.mem p hp]; simp
    · exact P.lt p (by simpa using hp)
    · have := P.once p
      rw [List.count_append]
      simpa using this
    · rw [hwk, List.count_append, P.gone]
      simp [List.count_append]
      omega
  · have hlt : w < n := by omega
    have hc : Int.fmod ((w : Int) + 1) ((n : Int) + 1) = (w : Int) + 1 := by
      rw [Int.fmod_eq_emod_of_nonneg _ (by omega)]
      exact Int.emod_eq_of_lt (by omega) (by omega)
    rw [hc]
    have hwk := wk_add (cnt := cn l) (cnt' := cn (l ++ [(w : Int)])) hcw hco n 0 hlt
    have hfall := wk_falls (cn l) n 0
    have hltn := wk_lt (cn l) n 0
    have hcn : (l ++ [(w : Int)]).count (n : Int) = l.count (n : Int) := hco n (Ne.symm hn)
    cases hf : (wk (cn l) n 0).1.find? (fun f => decide (f ≤ w)) with
    | none =>
      have hno : ∀ q ∈ (wk (cn l) n 0).1, ¬ q ≤ w := fun q hq => by simpa using List.find?_eq_none.mp hf q hq
      have hl : lastFree n pk ((w : Int) + 1) = none := lastFree_none fun p hp hpc q => hno p ((P.mem p hp).mpr (by simpa using hpc)) (by omega)
      have hany : (wk (cn l) n 0).1.any (fun f => decide (f ≤ w)) = false := by
        rw [List.any_eq_false]
        intro q hq; simpa using hno q hq
      rw [hl]
      have hwk2 : wk (cn (l ++ [(w : Int)])) n 0 = ((wk (cn l) n 0).1, (wk (cn l) n 0).2 + 1) := by
        rw [hwk, hany, List.eraseP_of_forall_not (fun q hq => by simpa using hno q hq)]
        rfl
      refine ⟨fun p hp => ?_, fun p hp => ?_, fun p => ?_, ?_⟩
      · rw [hwk2, P.mem p hp]; simp
      · exact P.lt p (by simpa using hp)
      · have := P.once p
        rw [List.count_append]
        simpa using this
      · rw [hwk2, List.count_append, P.gone, hcn]
        simp
        omega
    | some f =>
      obtain ⟨h1, h2, h3⟩ := falls_find w _ hfall f hf
      have hfn := hltn f h1
      have hl : lastFree n pk ((w : Int) + 1) = some f := lastFree_some hfn (by simpa using (P.mem f hfn).mp h1) (by omega) fun q hq hqc hql => h3 q ((P.mem q hq).mpr (by simpa using hqc)) (by omega)
      have hany : (wk (cn l) n 0).1.any (fun f => decide (f ≤ w)) = true := List.any_eq_true.mpr ⟨f, h1, by simpa using h2⟩
      rw [hl]
      have hmem := falls_erase w _ hfall f hf
      have hnf : some f ∉ pk := (P.mem f hfn).mp h1
      refine ⟨fun p hp => ?_, fun p hp => ?_, fun p => ?_, ?_⟩
      · rw [hwk, hmem p, P.mem p hp]
        simp
      · rcases List.mem_append.mp hp with hp | hp
        · exact P.lt p hp
        · have : p = f := by simpa using hp
          rw [this]; exact hfn
      · rw [List.count_append, List.count_singleton]
        have := P.once p
        by_cases hpf : p = f
        · subst hpf
          rw [List.count_eq_zero.mpr hnf]
          split <;> omega
        · rw [if_neg (by simpa using fun q => hpf q.symm)]
          omega
      · rw [hwk, hany, List.count_append, P.gone, hcn]
        simp

theorem parks_of (n : Nat) (l : List Int) (hl : ∀ z ∈ l, 0 ≤ z ∧ z ≤ n) : Parks n l (parkF n l) := by
  have key : ∀ (r : List Int), (∀ z ∈ r, 0 ≤ z ∧ z ≤ n) → ∀ (l : List Int), Parks n l (parkF n l) → Parks n (l ++ r) (parkF n (l ++ r)) := by
    intro r
    induction r with
    | nil => intro _ l P; simpa using P
    | cons z r ih =>
      intro hz l P
      have h0 := hz z (.head _)
      obtain ⟨w, rfl⟩ : ∃ w : Nat, z = (w : Int) := ⟨z.toNat, by omega⟩
      rw [show l ++ (w : Int) :: r = (l ++ [(w : Int)]) ++ r by simp]
      refine ih (fun z hz' => hz z (.tail _ hz')) _ ?_
      rw [parkF_snoc]
      exact parks_snoc P (by omega)
  have base : Parks n [] (parkF n []) := by
    have hz : ∀ k, wk (cn []) k 0 = ((List.range k).reverse, 0) := by
      intro k
      induction k with
      | zero => rfl
      | succ k ih =>
        unfold wk
        rw [if_pos (by simp [cn]), ih, range_rev]
    refine ⟨fun p hp => ?_, fun p hp => ?_, fun p => ?_, ?_⟩
    · rw [hz]; simp [parkF, hp]
    · simp [parkF] at hp
    · simp [parkF]
    · rw [hz]; simp [parkF]
  simpa using key l hl [] base

/-- unorderable_list_difference, of a list that has each stall at most once -/
theorem uld_of (k : Nat) : ∀ (miss : List Nat) (pk : List (Option Nat)), (∀ p, some p ∈ pk → p < k) → (∀ p, pk.count (some p) ≤ 1) →
    (List.range k).reverse.foldl uldStep (miss, pk) = (miss ++ (List.range k).reverse.filter (fun x => !pk.contains (some x)), List.replicate (pk.count none) none) := by
  induction k with
  | zero =>
    intro miss pk hlt _
    have hall : ∀ o ∈ pk, o = none := fun o ho => by
      cases o with
      | none => rfl
      | some p => exact absurd (hlt p ho) (Nat.not_lt_zero _)
    have : pk = List.replicate pk.length none := List.eq_replicate_iff.mpr ⟨rfl, hall⟩
    rw [show pk.count none = pk.length from List.count_eq_length.mpr fun b hb => (hall b hb).symm]
    simp [← this]
  | succ k ih =>
    intro miss pk hlt hone
    rw [range_rev, List.foldl_cons]
    by_cases hc : pk.contains (some k) = true
    · rw [show uldStep (miss, pk) k = (miss, pk.erase (some k)) by unfold uldStep; rw [if_pos hc]]
      have hk0 : some k ∉ pk.erase (some k) := fun q => by
        have := List.count_erase_self (a := some k) (l := pk)
        have h1 := hone k
        have : (pk.erase (some k)).count (some k) = 0 := by omega
        exact List.count_eq_zero.mp this q
      rw [ih, List.filter_cons_of_neg (by simpa using hc)]
      · congr 1
        · congr 1
          refine List.filter_congr fun x hx => ?_
          have hxk : x < k := by simpa using hx
          congr 1
          rw [Bool.eq_iff_iff]
          simp only [List.contains_iff_mem]
          rw [List.mem_erase_of_ne (by intro q; injection q with q; omega)]
        · rw [List.count_erase_of_ne (by simp)]
      · intro p hp
        have := hlt p (List.mem_of_mem_erase hp)
        have : p ≠ k := fun q => hk0 (q ▸ hp)
        omega
      · intro p
        exact Nat.le_trans ((List.erase_sublist).count_le _) (hone p)
    · rw [show uldStep (miss, pk) k = (miss ++ [k], pk) by unfold uldStep; rw [if_neg hc]]
      rw [ih, List.filter_cons_of_pos (by simpa using hc)]
      · simp
      · intro p hp
        have := hlt p hp
        have : p ≠ k := fun q => hc (by rw [List.contains_iff_mem]; exact q ▸ hp)
        omega
      · exact hone

/-- each turn -/
theorem turn_law (n : Nat) (l : List Int) (hl : ∀ z ∈ l, 0 ≤ z ∧ z ≤ n) : uldF n (parkF n l) = ((walkF n l).1, List.replicate ((walkF n l).2 + l.count (n : Int)) none) := by
  have P := parks_of n l hl
  unfold uldF
  rw [uld_of n [] _ P.lt P.once, P.gone, walkF_wk]
  congr 1
  rw [List.nil_append]
  conv => rhs; rw [falls_eq n _ (wk_falls (cn l) n 0) (wk_lt (cn l) n 0)]
  refine List.filter_congr fun x hx => ?_
  have hxn : x < n := by simpa using hx
  have := P.mem x hxn
  rw [Bool.eq_iff_iff]
  simp only [Bool.not_eq_true', List.contains_iff_mem, this]
  simp
end Mine
end

section
open PySem PySem.W PyProof.Rows PySem.Calls
set_option maxRecDepth 10000
namespace Mine

/-- the sums of the first wishes, from the number behind the stalls down -/
def sA (a : Nat → Nat) (n : Nat) : Nat → Int
  | 0 => (a n : Int) - 1
  | i + 1 => sA a n i + (a (n - (i + 1)) : Int) - 1
/-- the sums of m stalls from stall k - 1 down -/
def dk (cnt : Nat → Nat) : Nat → Nat → Int
  | _, 0 => 0
  | 0, _ + 1 => 0
  | k + 1, m + 1 => (cnt k : Int) - 1 + dk cnt k m
def smT (cnt : Nat → Nat) : Nat → Nat
  | 0 => 0
  | k + 1 => smT cnt k + cnt k

theorem dk_zero (cnt : Nat → Nat) (k : Nat) : dk cnt k 0 = 0 := by unfold dk; cases k <;> rfl
theorem dk_last (cnt : Nat → Nat) : ∀ (k m : Nat), m + 1 ≤ k → dk cnt k (m + 1) = dk cnt k m + (cnt (k - (m + 1)) : Int) - 1
  | 0, m, h => by omega
  | k + 1, 0, _ => by
    rw [dk_zero]
    show (cnt k : Int) - 1 + dk cnt k 0 = _
    rw [dk_zero, show k + 1 - (0 + 1) = k by omega]
    omega
  | k + 1, m + 1, h => by
    show (cnt k : Int) - 1 + dk cnt k (m + 1) = ((cnt k : Int) - 1 + dk cnt k m) + _ - 1
    rw [dk_last cnt k m (by omega), show k + 1 - (m + 1 + 1) = k - (m + 1) by omega]
    omega
theorem wk_nil (cnt : Nat → Nat) : ∀ (k c : Nat), (wk cnt k c).1 = [] ↔ ∀ m, m ≤ k → 0 ≤ (c : Int) + dk cnt k m
  | 0, c => by
    constructor
    · intro _ m hm
      obtain rfl : m = 0 := by omega
      rw [dk_zero]; omega
    · intro _; rfl
  | k + 1, c => by
    unfold wk
    by_cases h : c + cnt k = 0
    · rw [if_pos h]
      constructor
      · intro q; cases q
      · intro q
        have := q 1 (by omega)
        have e : dk cnt (k + 1) 1 = (cnt k : Int) - 1 + dk cnt k 0 := rfl
        rw [e, dk_zero] at this
        omega
    · rw [if_neg h, wk_nil cnt k]
      constructor
      · intro q m hm
        cases m with
        | zero => rw [dk_zero]; omega
        | succ m =>
          have := q m (by omega)
          show 0 ≤ (c : Int) + ((cnt k : Int) - 1 + dk cnt k m)
          omega
      · intro q m hm
        have := q (m + 1) (by omega)
        have e : dk cnt (k + 1) (m + 1) = (cnt k : Int) - 1 + dk cnt k m := rfl
        rw [e] at this
        omega
theorem wk_total (cnt : Nat → Nat) : ∀ (k c : Nat), c + smT cnt k + (wk cnt k c).1.length = k + (wk cnt k c).2
  | 0, c => by simp [wk, smT]
  | k + 1, c => by
    unfold wk
    by_cases h : c + cnt k = 0
    · rw [if_pos h]
      have := wk_total cnt k 0
      simp only [smT, List.length_cons]
      omega
    · rw [if_neg h]
      have := wk_total cnt k (c + cnt k - 1)
      simp only [smT]
      omega
theorem sA_sum (a : Nat → Nat) (n : Nat) : ∀ i, i ≤ n → sA a n i + (smT a (n - i) : Int) + (i : Int) + 1 = smT a (n + 1)
  | 0, _ => by simp [sA, smT]; omega
  | i + 1, h => by
    have := sA_sum a n i (by omega)
    have e : smT a (n - i) = smT a (n - (i + 1)) + a (n - (i + 1)) := by
      rw [show n - i = (n - (i + 1)) + 1 by omega]; rfl
    simp only [sA]
    omega
/-- the sums of a turn are differences of the sums of the first wishes -/
theorem dk_shift {a cnt : Nat → Nat} {n T : Nat} (hT : T ≤ n) (hn : sA a n n = -1) (h1 : ∀ x, x ≤ n → T ≤ x → cnt x = a (x - T)) (h2 : ∀ x, x ≤ n → x < T → cnt x = a (x + (n + 1) - T)) :
    ∀ m, m ≤ n → dk cnt n m = if T + m ≤ n then sA a n (T + m) - sA a n T else sA a n (T + m - (n + 1)) - 1 - sA a n T
  | 0, _ => by rw [dk_zero, if_pos (by omega)]; simp
  | m + 1, hm => by
    rw [dk_last cnt n m hm, dk_shift hT hn h1 h2 m (by omega)]
    by_cases hx : T + (m + 1) ≤ n
    · rw [if_pos (by omega), if_pos hx, h1 _ (by omega) (by omega), show T + (m + 1) = (T + m) + 1 by omega]
      simp only [sA]
      rw [show n - (m + 1) - T = n - (T + m + 1) by omega]
      omega
    · rw [if_neg hx, h2 _ (by omega) (by omega)]
      by_cases hy : T + m ≤ n
      · rw [if_pos hy, show T + m = n by omega, hn, show T + (m + 1) - (n + 1) = 0 by omega]
        simp only [sA]
        rw [show n - (m + 1) + (n + 1) - T = n by omega]
        omega
      · rw [if_neg hy, show T + (m + 1) - (n + 1) = (T + m - (n + 1)) + 1 by omega]
        simp only [sA]
        rw [show n - (m + 1) + (n + 1) - T = n - (T + m - (n + 1) + 1) by omega]
        omega

theorem smT_add {a b : Nat → Nat} {z : Nat} (hz : b z = a z + 1) (ho : ∀ x, x ≠ z → b x = a x) : ∀ k, smT b k = smT a k + if z < k then 1 else 0
  | 0 => rfl
  | k + 1 => by
    simp only [smT]
    rw [smT_add hz ho k]
    by_cases h : z = k
    · subst h
      rw [hz, if_neg (by omega), if_pos (by omega)]; omega
    · rw [ho k (Ne.symm h)]
      by_cases h2 : z < k
      · rw [if_pos h2, if_pos (by omega)]; omega
      · rw [if_neg h2, if_neg (by omega)]
        omega
theorem sum_counts (n : Nat) : ∀ (l : List Int), (∀ z ∈ l, 0 ≤ z ∧ z ≤ n) → smT (cn l) (n + 1) = l.length
  | [], _ => by
    have : ∀ k, smT (cn []) k = 0 := by
      intro k
      induction k with
      | zero => rfl
      | succ k ih => simp only [smT]; rw [ih]; simp [cn]
    rw [this]; rfl
  | z :: l, h => by
    have h0 := h z (.head _)
    obtain ⟨w, rfl⟩ : ∃ w : Nat, z = (w : Int) := ⟨z.toNat, by omega⟩
    have ih := sum_counts n l fun z hz => h z (.tail _ hz)
    rw [smT_add (a := cn l) (z := w) (by simp [cn]) (fun x hx => by
      simp only [cn]
      rw [List.count_cons_of_ne (by simp; omega)]), if_pos (by omega), ih]
    rfl

/-- the wishes of a turn -/
def wish (n : Nat) (T : Int) (ns : List Int) : List Int := ns.map fun x => Int.fmod (x + T) ((n : Int) + 1)
theorem wish_mem {n : Nat} {T : Int} {ns : List Int} : ∀ z ∈ wish n T ns, 0 ≤ z ∧ z ≤ n := by
  intro z hz
  obtain ⟨x, _, rfl⟩ := List.mem_map.mp hz
  rw [Int.fmod_eq_emod_of_nonneg _ (by omega)]
  have h1 := Int.emod_nonneg (x + T) (show (n : Int) + 1 ≠ 0 by omega)
  have h2 := Int.emod_lt_of_pos (x + T) (show (0 : Int) < (n : Int) + 1 by omega)
  omega
theorem wish_len {n : Nat} {T : Int} {ns : List Int} : (wish n T ns).length = ns.length := by simp [wish]
theorem wish_cn {n T x y : Nat} {ns : List Int} (hT : T ≤ n) (hx : x ≤ n) (hy : y ≤ n) (h : (x : Int) = y + T ∨ (x : Int) + (n + 1) = y + T) : cn (wish n T ns) x = cn (wish n 0 ns) y := by
  unfold cn wish List.count
  rw [List.countP_map, List.countP_map]
  congr 1
  funext z
  simp only [Function.comp]
  rw [Bool.eq_iff_iff, beq_iff_eq, beq_iff_eq, Int.fmod_eq_emod_of_nonneg _ (by omega), Int.fmod_eq_emod_of_nonneg _ (by omega), Int.add_zero]
  have h1 := Int.emod_nonneg z (show (n : Int) + 1 ≠ 0 by omega)
  have h2 := Int.emod_lt_of_pos z (show (0 : Int) < (n : Int) + 1 by omega)
  have e : (z + (T : Int)) % ((n : Int) + 1) = (z % ((n : Int) + 1) + T) % ((n : Int) + 1) := by rw [Int.emod_add_emod]
  rw [e]
  generalize z % ((n : Int) + 1) = r at *
  by_cases hr : r + T < (n : Int) + 1
  · rw [Int.emod_eq_of_lt (by omega) hr]
    omega
  · rw [show (r + (T : Int)) % ((n : Int) + 1) = r + T - (n + 1) by
      rw [← Int.sub_emod_right, Int.emod_eq_of_lt (by omega) (by omega)]]
    omega

/-- the turn in which nobody goes -/
theorem good_iff {n T : Nat} {ns : List Int} (hl : ns.length = n) (hT : T ≤ n) : (walkF n (wish n T ns)).2 + (wish n T ns).count (n : Int) = 0 ↔
    (∀ j, j ≤ n → T ≤ j → sA (cn (wish n 0 ns)) n T ≤ sA (cn (wish n 0 ns)) n j) ∧ ∀ j, j < T → sA (cn (wish n 0 ns)) n T < sA (cn (wish n 0 ns)) n j := by
  have hs : ∀ T : Int, smT (cn (wish n T ns)) (n + 1) = n := fun T => by rw [sum_counts n _ wish_mem, wish_len, hl]
  have hn : sA (cn (wish n 0 ns)) n n = -1 := by
    have := sA_sum (cn (wish n 0 ns)) n n (Nat.le_refl _)
    rw [hs 0, Nat.sub_self] at this
    simp only [smT] at this
    omega
  have ht := wk_total (cn (wish n T ns)) n 0
  have hsT := hs T
  simp only [smT] at hsT
  rw [walkF_wk]
  have step : (wk (cn (wish n T ns)) n 0).2 + (wish n T ns).count (n : Int) = 0 ↔ (wk (cn (wish n T ns)) n 0).1 = [] := by
    rw [← List.length_eq_zero_iff]
    show (wk (cn (wish n T ns)) n 0).2 + cn (wish n T ns) n = 0 ↔ _
    omega
  rw [step, wk_nil]
  have hd := dk_shift (a := cn (wish n 0 ns)) (cnt := cn (wish n T ns)) hT hn (fun x hx hTx => wish_cn hT hx (by omega) (.inl (by omega))) (fun x hx hTx => wish_cn hT hx (by omega) (.inr (by omega)))
  constructor
  · intro q
    constructor
    · intro j hj hTj
      have := q (j - T) (by omega)
      rw [hd _ (by omega), if_pos (by omega), show T + (j - T) = j by omega] at this
      omega
    · intro j hj
      have := q (j + (n + 1) - T) (by omega)
      rw [hd _ (by omega), if_neg (by omega), show T + (j + (n + 1) - T) - (n + 1) = j by omega] at this
      omega
  · rintro ⟨q1, q2⟩ m hm
    rw [hd m hm]
    by_cases hx : T + m ≤ n
    · rw [if_pos hx]
      have := q1 (T + m) hx (by omega)
      omega
    · rw [if_neg hx]
      have := q2 (T + m - (n + 1)) (by omega)
      omega

theorem sums_sA (n : Nat) (ns : List Int) : sumsF n ns = (List.range (n + 1)).map (sA (cn ns) n) := by
  have key : ∀ k, k ≤ n → (List.range k).reverse.foldl (sumStep ns) ((List.range (n - k + 1)).map (sA (cn ns) n)) = (List.range (n + 1)).map (sA (cn ns) n) := by
    intro k
    induction k with
    | zero => intro _; rfl
    | succ k ih =>
      intro hk
      rw [range_rev, List.foldl_cons]
      have e : sumStep ns ((List.range (n - (k + 1) + 1)).map (sA (cn ns) n)) k = (List.range (n - k + 1)).map (sA (cn ns) n) := by
        unfold sumStep
        rw [show n - k + 1 = (n - (k + 1) + 1) + 1 by omega]
        conv => rhs; rw [List.range_succ, List.map_append]
        congr 1
        rw [List.map_singleton]
        congr 1
        rw [List.range_succ, List.map_append]
        simp only [List.map_cons, List.map_nil, List.getLastD_concat, sA]
        rw [show n - (n - (k + 1) + 1) = k by omega]
      rw [e]
      exact ih (by omega)
  have := key n (Nat.le_refl _)
  rw [Nat.sub_self] at this
  unfold sumsF
  rw [← this]
  rfl

theorem filter_one {p : Nat → Bool} {T : Nat} (hp : p T = true) : ∀ n, T < n → (∀ j, j < n → p j = true → j = T) → (List.range n).filter p = [T]
  | 0, h, _ => by omega
  | n + 1, h, hu => by
    rw [List.range_succ, List.filter_append]
    by_cases hT : T = n
    · subst hT
      rw [List.filter_eq_nil_iff.mpr (fun x hx q => by
        have hx' : x < T := by simpa using hx
        have := hu x (by omega) q
        omega), List.filter_cons_of_pos hp]
      rfl
    · rw [filter_one hp n (by omega) fun j hj => hu j (by omega), List.filter_cons_of_neg (fun q => hT (hu n (by omega) q).symm)]
      rfl

/-- all turns -/
theorem full_law {n : Nat} {ns : List Int} (hl : ns.length = n) {M : Int} (hM : M ∈ sumsF n (wish n 0 ns)) (hmin : ∀ a, a ∈ sumsF n (wish n 0 ns) → M ≤ a) :
    (List.range (n + 1)).filter (fun T : Nat => decide ((walkF n (wish n T ns)).2 + (wish n T ns).count (n : Int) = 0)) = [(sumsF n (wish n 0 ns)).idxOf M] := by
  have hj := List.idxOf_lt_length_iff.mpr hM
  have hg := List.getElem_idxOf hj
  have hb : ∀ i (hi : i < (sumsF n (wish n 0 ns)).length), i < (sumsF n (wish n 0 ns)).idxOf M → (sumsF n (wish n 0 ns))[i] ≠ M := fun i hi hlt => by
    simpa using ne_of_lt_idxOf hlt hi
  have hlen : (sumsF n (wish n 0 ns)).length = n + 1 := by rw [sums_sA]; simp
  have hget : ∀ i (hi : i < (sumsF n (wish n 0 ns)).length), (sumsF n (wish n 0 ns))[i] = sA (cn (wish n 0 ns)) n i := fun i hi => by
    simp [sums_sA]
  generalize (sumsF n (wish n 0 ns)).idxOf M = T at *
  have hT : T ≤ n := by omega
  rw [hget] at hg
  have hge : ∀ i, i ≤ n → M ≤ sA (cn (wish n 0 ns)) n i := fun i hi => by
    have := hmin _ (List.getElem_mem (l := sumsF n (wish n 0 ns)) (n := i) (by omega))
    rwa [hget] at this
  refine filter_one ?_ (n + 1) (by omega) ?_
  · rw [decide_eq_true_iff, good_iff hl hT, hg]
    refine ⟨fun j hj _ => hge j hj, fun j hjT => ?_⟩
    have h1 := hge j (by omega)
    have h2 := hb j (by omega) hjT
    rw [hget] at h2
    omega
  · intro j hjn hgj
    rw [decide_eq_true_iff, good_iff hl (by omega)] at hgj
    obtain ⟨q1, q2⟩ := hgj
    have hjle : sA (cn (wish n 0 ns)) n j ≤ M := by
      rw [← hg]
      by_cases h : j ≤ T
      · exact q1 T hT h
      · exact Int.le_of_lt (q2 T (by omega))
    have hjM : sA (cn (wish n 0 ns)) n j = M := by have := hge j (by omega); omega
    by_cases h : j < T
    · have := hb j (by omega) h
      rw [hget] at this
      exact absurd hjM this
    · by_cases h2 : T < j
      · have := q2 T h2
        omega
      · omega
end Mine
end

section
open PySem PySem.W PyProof.Rows PySem.Calls
set_option maxRecDepth 100000
set_option maxHeartbeats 4000000
namespace Mine

section
variable {prog : Program} {w : World} {A : Around} {E : Value → Shared → Prop} {s : Shared} {env : Env} {h₀ : Heap} {L : Addr} {m : Str → Option Value} {news : List (Addr × Obj)}

/-- the same, with the iterator's state told -/
theorem for_gen2 {target : Expr} {body : List Stmt} {I : Addr} {fp : List Addr} {n : Nat} {P : Nat → Value → Prop} {St : Nat → Heap → Prop} {Q : Flow → Shared → Prop} {oI : Obj} (W : Walks prog w A I fp [I] n P St)
    (hst : St 0 s.heap) (F : Fr h₀ L s.heap m) (N : News h₀ L s.heap ((I, oI) :: news)) (hIn : ∀ p ∈ news, p.1 ≠ I)
    (J : Nat → (Str → Option Value) → List (Addr × Obj) → Prop) (h0 : J 0 m news) (hE : PassesOwn (model prog w) A env E)
    (live : ∀ i h, St i h → ∃ o, h.get? I = some o)
    (turn : ∀ i v m₁ news₁ h tk oI, i < n → P i v → St (i + 1) h → J i m₁ news₁ → (∀ p ∈ news₁, p.1 ≠ I) → Fr h₀ L h m₁ → News h₀ L h ((I, oI) :: news₁) →
      wpAny (model prog w) A (assign target env v) (fun _ s₂ => wpAny (model prog w) A (execs body env) (fun f s₃ => match f with
        | .ret v => Q (.ret v) s₃
        | .brk => Q .next s₃
        | _ => ∃ h' tk' m₂ news₂, s₃ = { s with heap := h', toks := tk' } ∧ Fr h₀ L h' m₂ ∧ News h₀ L h' ((I, oI) :: news₂) ∧ (∀ p ∈ news₂, p.1 ≠ I) ∧ (∀ b ∈ fp, b ≠ I → ∀ o, h.get? b = some o → h'.get? b = some o) ∧ J (i + 1) m₂ news₂) E s₂) E { s with heap := h, toks := tk })
    (done : ∀ h tk m₁ news₁, J n m₁ news₁ → Fr h₀ L h m₁ → News h₀ L h news₁ → Q .next { s with heap := h, toks := tk })
    (ht : ∀ v, letOwnedTupleGo target (.ref I) v = pure ()) :
    codeAny (model prog w) A (.forLoop target (.ref I) body [] env) (fun r s' => match r with | .ok f => Q f s' | .error e => cameBackBy (model prog w) A env E e s') s := by
  have hIL := (N _ (.head _)).2.1
  have hI0 := (N _ (.head _)).2.2
  refine codeAny_forLoop (R := fun r s' => match r with | .ok f => Q f s' | .error e => cameBackBy (model prog w) A env E e s')
    (fun k s' => ∃ h' tk m' news' i, s' = { s with heap := h', toks := tk } ∧ St i h' ∧ Fr h₀ L h' m' ∧ News h₀ L h' news' ∧ (∀ p ∈ news', p.1 ≠ I) ∧ J i m' news' ∧ i ≤ n ∧ k = n + 1 - i) ?_ (n + 1)
    ⟨s.heap, s.toks, m, news, 0, rfl, hst, F, news_sub N fun q hq => .tail _ hq, hIn, h0, Nat.zero_le _, rfl⟩ ht
  rintro k s' ⟨h', tk, m', news', i, rfl, hst', F', N', hnw', hJ, hi, rfl⟩
  have next : ∀ h₁ : Heap, (∀ b o, b ∉ [I] → h'.get? b = some o → h₁.get? b = some o) → Fr h₀ L h₁ m' ∧ News h₀ L h₁ news' := fun h₁ hk₁ =>
    ⟨⟨F'.ns.at' fun o e => hk₁ _ o (by simpa using Ne.symm hIL) e, fun b o e => hk₁ b o (by intro q; rw [List.mem_singleton.mp q, hI0] at e; cases e) (F'.keep b o e), F'.above⟩,
      fun p hp => ⟨hk₁ _ _ (by simpa using hnw' p hp) (N' p hp).1, (N' p hp).2⟩⟩
  by_cases hlt : i < n
  · refine W.item i _ _ _ hlt hst' fun v h₁ tk₁ hP hst₁ hk₁ => ?_
    obtain ⟨F₁, N₁⟩ := next h₁ hk₁
    obtain ⟨oI', hoI'⟩ := live _ _ hst₁
    have N₂ : News h₀ L h₁ ((I, oI') :: news') := fun p hp => by
      rcases List.mem_cons.mp hp with rfl | hp
      · exact ⟨hoI', hIL, hI0⟩
      · exact N₁ p hp
    refine wpAny_passesOwn hE (wpAny_mono (turn i v m' news' h₁ tk₁ oI' hlt hP hst₁ hJ hnw' F₁ N₂) (fun _ s₂ h₂ => wpAny_passesOwn hE (wpAny_mono h₂ (fun f s₃ h₃ => ?_) fun _ _ e => e)) fun _ _ e => e)
    have fin : (∃ h' tk' m₂ news₂, s₃ = { s with heap := h', toks := tk' } ∧ Fr h₀ L h' m₂ ∧ News h₀ L h' ((I, oI') :: news₂) ∧ (∀ p ∈ news₂, p.1 ≠ I) ∧ (∀ b ∈ fp, b ≠ I → ∀ o, h₁.get? b = some o → h'.get? b = some o) ∧ J (i + 1) m₂ news₂) →
        ∃ k', k' < n + 1 - i ∧ ∃ h' tk m' news' i, s₃ = { s with heap := h', toks := tk } ∧ St i h' ∧ Fr h₀ L h' m' ∧ News h₀ L h' news' ∧ (∀ p ∈ news', p.1 ≠ I) ∧ J i m' news' ∧ i ≤ n ∧ k' = n + 1 - i := by
      rintro ⟨h4, tk₃, m₃, news₃, rfl, F₃, N₃, hn₃, hfp, J₃⟩
      refine ⟨n + 1 - (i + 1), by omega, h4, tk₃, m₃, news₃, i + 1, rfl, ?_, F₃, news_sub N₃ fun q hq => .tail _ hq, hn₃, J₃, hlt, rfl⟩
      refine W.frame _ _ _ hst₁ fun b hb o e => ?_
      by_cases hbI : b = I
      · subst hbI; rw [hoI'] at e; cases e; exact (N₃ _ (.head _)).1
      · exact hfp b hb hbI o e
    cases f with
    | ret v => exact h₃
    | brk => exact h₃
    | next => exact fin h₃
    | cont => exact fin h₃
  · have hin : i = n := by omega
    subst hin
    refine W.done _ _ _ hst' fun h₁ tk₁ hk₁ => wpAny_execs_nil ?_
    obtain ⟨F₁, N₁⟩ := next h₁ hk₁
    exact done h₁ tk₁ m' news' hJ F₁ N₁

/-- a list comprehension over a list of the ledger, without a test; its elements make nothing but new things -/
theorem comp_list {elt iter : Expr} {x : Str} {px : Pos} {scope : Scope} {cl : List (Str × Addr)} {pos : Pos} {Q : Value → Shared → Prop} {nu : Addr} {vs : List Value} {kn : Nat} (Fx : Value → Value → Prop) (F : Fr h₀ L s.heap m) (N : News h₀ L s.heap news) (hm : (nu, listOf vs.toArray kn) ∈ news) (hh : A.handled = none) (hn : vs.length ≤ 1000)
    (hclos : closureFor scope env = pure cl) (hcell : ∀ y ∈ scope.names, y.2 ≠ .cell) (hkind : scope.kind = .function)
    (hnames : ∀ y ∈ scope.names, y.2 = .local → scope.names.lookup y.1 = some .local) (hx : scope.names.lookup x = some .local)
    (hs : ∀ x, foldedSetIterable iter env x = pure x)
    (hit : wpAny (model prog w) A (eval iter env) (fun xv s₁ => xv = .ref nu ∧ ∃ tk, s₁ = { s with toks := tk }) E s)
    (helt : ∀ C (i : Nat) v s₃ m₃ E', vs[i]? = some v → s₃.heap.Ns C m₃ → m₃ x = some v → (∀ q ∈ news, s₃.heap.get? q.1 = some q.2) → (∀ b o, h₀.get? b = some o → s₃.heap.get? b = some o) →
      wpAny (model prog w) A (eval elt (compEnvC scope cl C env)) (fun y s₄ => Fx v y ∧ Keeps s₃ s₄) E' s₃)
    (h : ∀ D h' tk ys k, Fr h₀ L h' m → News h₀ L h' ((D, listOf ys k) :: news) → (∀ q ∈ news, q.1 ≠ D) → ys.size = vs.length → (∀ (i : Nat) (y : Value), ys.toList[i]? = some y → ∃ v, vs[i]? = some v ∧ Fx v y) → Q (.ref D) { s with heap := h', toks := tk }) :
    wpAny (model prog w) A (eval (.ListComp elt [⟨.Name x px, iter, [], 0⟩] scope pos) env) Q E s := by
  refine wpAny_ListComp_free (fun _ => true) Fx hclos hcell hkind hnames hx (wpAny_mono hit (fun xv s₁ h₁ => ?_) fun _ _ e => e) hs
  obtain ⟨rfl, tk₁, rfl⟩ := h₁
  refine wpAny_pyIter_list (News.isList N hm) ?_
  obtain ⟨F₂, N₂, hne⟩ := iter_push (s := { s with toks := tk₁ }) (o := { cls := .type "list_iterator", data := .fields #[.ref nu, .int 0 0] }) F N
  refine ⟨_, _, _, _, _, _, rfl, Walks.list hh _ nu (hne _ hm) vs.toArray, by rw [sizeLine_eq, List.size_toArray]; omega, ⟨⟨_, Heap.get?_push_size _ rfl, rfl, rfl⟩, (News.isList N hm).push _⟩, ?_, ⟨?_, ?_⟩, ?_⟩
  · intro b hb
    simp only [List.mem_cons, List.mem_nil_iff, or_false] at hb
    rcases hb with rfl | rfl
    · simp
    · exact Heap.lt_size (Heap.get?_push_of_some _ (N _ hm).1)
  · intro C i v s₃ m₃ E' _ _ _ _ _ _
    exact wpAny_pure ⟨rfl, ⟨_, _, rfl, fun _ _ e => e⟩⟩
  · intro C i v s₃ m₃ E' hC hP _ hns hm' hk _
    exact helt C i v s₃ m₃ E' (by simpa using hP) hns hm' (fun q hq => hk _ _ (by simpa using hne q hq) (N₂ _ (.tail _ hq)).1) (fun b o e => hk b o (by intro q; rw [List.mem_singleton.mp q] at e; exact absurd (Heap.lt_size (F.keep _ _ e)) (Nat.lt_irrefl _)) (F₂.keep b o e))
  · intro D h' tk ys vs' hD hl hpl hlen hP hpair hk
    have hf : vs'.filter (fun _ => true) = vs' := List.filter_eq_self.mpr fun _ _ => rfl
    rw [hf] at hpair
    obtain ⟨kk, hpl⟩ := hpl
    have hkeep : ∀ b o, s.heap.get? b = some o → h'.get? b = some o := fun b o e => hk b o (by intro q; rw [List.mem_singleton.mp q] at e; exact absurd (Heap.lt_size e) (Nat.lt_irrefl _)) (Heap.get?_push_of_some _ e)
    have hD1 : ∀ b o, s.heap.get? b = some o → b ≠ D := fun b o e q => by
      have e2 := Heap.get?_push_of_some { cls := .type "list_iterator", data := .fields #[.ref nu, .int 0 0] } e
      rw [q, hD] at e2; cases e2
    refine h D h' tk ys kk ⟨F.ns.keeps hkeep, fun b o e => hkeep b o (F.keep b o e), F.above⟩ (fun p hp => ?_) (fun q hq => hD1 _ _ (N q hq).1) ?_ ?_
    · rcases List.mem_cons.mp hp with rfl | hp
      · refine ⟨hpl, fun q => ?_, ?_⟩
        · obtain ⟨oL, _, _, hL, _⟩ := F.ns
          exact hD1 _ _ hL q.symm
        · cases q : h₀.get? D with
          | none => rfl
          | some o => exact absurd rfl (hD1 _ _ (F.keep _ _ q))
      · exact ⟨hkeep _ _ (N p hp).1, (N p hp).2⟩
    · rw [← Array.length_toList, ← hpair.length, hlen, List.size_toArray]
    · intro i y hy
      obtain ⟨v, hv, hF⟩ := paired_get hpair i y hy
      exact ⟨v, by simpa using hP i v hv, hF⟩

/-- the same, set to a local name at once -/
theorem asg_list {elt iter : Expr} {x y : Str} {px py : Pos} {scope : Scope} {cl : List (Str × Addr)} {pos spos : Pos} {Q : Flow → Shared → Prop} {nu : Addr} {vs : List Value} {kn : Nat} (Fx : Value → Value → Prop) (F : Fr h₀ L s.heap m) (N : News h₀ L s.heap news) (hm : (nu, listOf vs.toArray kn) ∈ news) (hh : A.handled = none) (hn : vs.length ≤ 1000) (hLe : env.locals = L)
    (hsw : swapsWith (.ListComp elt [⟨.Name x px, iter, [], 0⟩] scope pos) (some (.Name y py)) spos.line env = pure true)
    (hclos : closureFor scope env = pure cl) (hcell : ∀ y ∈ scope.names, y.2 ≠ .cell) (hkind : scope.kind = .function)
    (hnames : ∀ y ∈ scope.names, y.2 = .local → scope.names.lookup y.1 = some .local) (hx : scope.names.lookup x = some .local)
    (hy : env.kindOf y = some .local) (hp : (env.scope.kind == .class || (env.scope.kind == .module && env.locals != env.globals)) = false)
    (hs : ∀ x, foldedSetIterable iter env x = pure x)
    (hit : wpAny (model prog w) A (eval iter env) (fun xv s₁ => xv = .ref nu ∧ ∃ tk, s₁ = { s with toks := tk }) E s)
    (helt : ∀ C (i : Nat) v s₃ m₃ E', vs[i]? = some v → s₃.heap.Ns C m₃ → m₃ x = some v → (∀ q ∈ news, s₃.heap.get? q.1 = some q.2) → (∀ b o, h₀.get? b = some o → s₃.heap.get? b = some o) →
      wpAny (model prog w) A (eval elt (compEnvC scope cl C env)) (fun y s₄ => Fx v y ∧ Keeps s₃ s₄) E' s₃)
    (h : ∀ D h' tk ys k, Fr h₀ L h' (fun z => if z = y then some (.ref D) else m z) → News h₀ L h' ((D, listOf ys k) :: news) → (∀ q ∈ news, q.1 ≠ D) → ys.size = vs.length → (∀ (i : Nat) (y : Value), ys.toList[i]? = some y → ∃ v, vs[i]? = some v ∧ Fx v y) → Q .next { s with heap := h', toks := tk }) :
    wpAny (model prog w) A (exec (.Assign [.Name y py] (.ListComp elt [⟨.Name x px, iter, [], 0⟩] scope pos) spos) env) Q E s := by
  subst hLe
  refine wpAny_Assign_ListComp_free (fun _ => true) Fx hsw hclos hcell hkind hnames hx hy hp (wpAny_mono hit (fun xv s₁ h₁ => ?_) fun _ _ e => e) hs
  obtain ⟨rfl, tk₁, rfl⟩ := h₁
  refine wpAny_pyIter_list (News.isList N hm) ?_
  obtain ⟨F₂, N₂, hne⟩ := iter_push (s := { s with toks := tk₁ }) (o := { cls := .type "list_iterator", data := .fields #[.ref nu, .int 0 0] }) F N
  have hLs : env.locals < s.heap.objs.size := by
    obtain ⟨oL, _, _, hL, _⟩ := F.ns
    exact Heap.lt_size hL
  refine ⟨_, _, _, _, _, _, m, rfl, Walks.list hh _ nu (hne _ hm) vs.toArray, by rw [sizeLine_eq, List.size_toArray]; omega, ⟨⟨_, Heap.get?_push_size _ rfl, rfl, rfl⟩, (News.isList N hm).push _⟩, ?_, ?_, F₂.ns, ⟨?_, ?_⟩, ?_⟩
  · intro b hb
    simp only [List.mem_cons, List.mem_nil_iff, or_false] at hb
    rcases hb with rfl | rfl
    · simp
    · exact Heap.lt_size (Heap.get?_push_of_some _ (N _ hm).1)
  · intro q
    exact Nat.ne_of_lt hLs (List.mem_singleton.mp q)
  · intro C i v s₃ m₃ E' _ _ _ _ _ _
    exact wpAny_pure ⟨rfl, ⟨_, _, rfl, fun _ _ e => e⟩⟩
  · intro C i v s₃ m₃ E' hC hP _ hns hm' hk _
    exact helt C i v s₃ m₃ E' (by simpa using hP) hns hm' (fun q hq => hk _ _ (by simpa using hne q hq) (N₂ _ (.tail _ hq)).1) (fun b o e => hk b o (by intro q; rw [List.mem_singleton.mp q] at e; exact absurd (Heap.lt_size (F.keep _ _ e)) (Nat.lt_irrefl _)) (F₂.keep b o e))
  · intro D h' tk ys vs' hD hl hpl hlen hP hpair hns' hk
    have hf : vs'.filter (fun _ => true) = vs' := List.filter_eq_self.mpr fun _ _ => rfl
    rw [hf] at hpair
    obtain ⟨kk, hpl⟩ := hpl
    have hkeep : ∀ b o, b ≠ env.locals → s.heap.get? b = some o → h'.get? b = some o := fun b o hb e => hk b o hb (by intro q; rw [List.mem_singleton.mp q] at e; exact absurd (Heap.lt_size e) (Nat.lt_irrefl _)) (Heap.get?_push_of_some _ e)
    have hD1 : ∀ b o, s.heap.get? b = some o → b ≠ D := fun b o e q => by
      have e2 := Heap.get?_push_of_some { cls := .type "list_iterator", data := .fields #[.ref nu, .int 0 0] } e
      rw [q, hD] at e2; cases e2
    have hbL : ∀ b o, h₀.get? b = some o → b ≠ env.locals := fun b o e q => by
      have h1 := Heap.lt_size e
      have h2 := F.above
      rw [q] at h1
      exact Nat.lt_irrefl _ (Nat.lt_of_lt_of_le h1 h2)
    refine h D h' tk ys kk ⟨hns', fun b o e => hkeep b o (hbL b o e) (F.keep b o e), F.above⟩ (fun p hp => ?_) (fun q hq => hD1 _ _ (N q hq).1) ?_ ?_
    · rcases List.mem_cons.mp hp with rfl | hp
      · refine ⟨hpl, fun q => ?_, ?_⟩
        · obtain ⟨oL, _, _, hL, _⟩ := F.ns
          exact hD1 _ _ hL q.symm
        · cases q : h₀.get? D with
          | none => rfl
          | some o => exact absurd rfl (hD1 _ _ (F.keep _ _ q))
      · exact ⟨hkeep _ _ (N p hp).2.1 (N p hp).1, (N p hp).2⟩
    · rw [← Array.length_toList, ← hpair.length, hlen, List.size_toArray]
    · intro i y hy
      obtain ⟨v, hv, hF⟩ := paired_get hpair i y hy
      exact ⟨v, by simpa using hP i v hv, hF⟩
end

theorem ints_val : ∀ {vs : List Value} {ns : List Int}, IntsAre vs ns → ∀ (i : Nat) (v : Value), vs[i]? = some v → ∃ k t, v = .int k t
  | _, _, .nil, i, v, h => by simp at h
  | _, _, .cons a t r, 0, v, h => by
    simp at h
    exact ⟨a, t, h.symm⟩
  | _, _, .cons a t r, i + 1, v, h => ints_val r i v (by simpa using h)
theorem TabOk.move2 {ps : Array Value} {specs : List (Pos × Str)} {cs cs' : List (Addr × Obj)} (x : TabOk ps specs cs) (h : ∀ p ∈ cs, (∃ vs q t, p.2.data = .fields vs ∧ vs[1]? = some (.str q t)) → p ∈ cs') : TabOk ps specs cs' :=
  ⟨x.1, fun pq hpq => (x.2 pq hpq).imp id fun ⟨c, oc, vs, t, a, b, d, r⟩ => ⟨c, oc, vs, t, a, h _ b ⟨vs, pq.2, t, d, r⟩, d, r⟩⟩
theorem ints_at {f : Int → Int} : ∀ (vs ys : List Value) (ns : List Int), IntsAre vs ns → ys.length = vs.length → (∀ (i : Nat) (y : Value), ys[i]? = some y → ∃ v, vs[i]? = some v ∧ ∃ (k : Int) (t t' : Tok), v = .int k t ∧ y = .int (f k) t') → IntsAre ys (ns.map f)
  | _, [], _, .nil, _, _ => .nil
  | _, _ :: _, _, .nil, h, _ => by cases h
  | _, [], _, .cons _ _ _, h, _ => by cases h
  | _, y :: ys, _, .cons a t r, hl, h => by
    obtain ⟨v, hv, k, t1, t', e1, e2⟩ := h 0 y (by simp)
    have hv' : Value.int a t = v := by simpa using hv
    rw [← hv'] at e1
    injection e1 with e1 _
    subst e1 e2
    rw [List.map_cons]
    refine .cons _ t' (ints_at _ ys _ r (by simpa using hl) fun i y hy => ?_)
    obtain ⟨v, hv, rest⟩ := h (i + 1) y (by simpa using hy)
    exact ⟨v, by simpa using hv, rest⟩

theorem eqv_nones : ∀ k, PyData.eqvAll (List.replicate k PyData.none) (List.replicate k PyData.none) = true
  | 0 => rfl
  | k + 1 => by
    rw [List.replicate_succ]
    simp only [PyData.eqvAll, PyData.eqv, eqv_nones k, Bool.and_true]
theorem shape_nones : ∀ k, PyData.canLayAll0 (List.replicate k PyData.none) = true
  | 0 => rfl
  | k + 1 => by
    rw [List.replicate_succ]
    simp [PyData.canLayAll0, PyData.canLay0, shape_nones k]
theorem depth_nones : ∀ k, PyData.depthAll (List.replicate k PyData.none) = 0
  | 0 => rfl
  | k + 1 => by
    rw [List.replicate_succ]
    simp [PyData.depthAll, PyData.depth, depth_nones k]
/-- what each turn's two pairs read as -/
def pairD (ms : List Int) (k : Nat) : PyData := .tuple [.list (ms.map PyData.int), .list (List.replicate k PyData.none)]
theorem pairD_eqv (ms : List Int) (k : Nat) : PyData.eqv (pairD ms k) (pairD ms k) = true := by
  simp only [pairD, PyData.eqv, PyData.eqvAll, ked_eqvAll, eqv_nones, decide_true, Bool.and_true]
theorem pairD_shaped (ms : List Int) (k : Nat) : SeqAt.shaped (pairD ms k) = true := by
  simp [pairD, SeqAt.shaped, PyData.canLay0, PyData.canLayAll0, PyData.depth, PyData.depthAll, ke_canLayAll0, ke_depthAll, shape_nones, depth_nones]
theorem carried_nones : ∀ k, CarriedAll (List.replicate k Value.none) (List.replicate k PyData.none)
  | 0 => .nil
  | k + 1 => by rw [List.replicate_succ, List.replicate_succ]; exact .cons .none (carried_nones k)
theorem encO_nones (k : Nat) : (List.replicate k (none : Option Nat)).map encO = List.replicate k PyData.none := by simp [encO]

theorem rangeKs_eq (n : Nat) : rangeKs 0 n = (List.range n).map Int.ofNat := by
  unfold rangeKs
  refine List.map_congr_left fun i _ => ?_
  show (0 : Int) + (i : Int) = (i : Int)
  omega

theorem canon4 {m₁ m0 : Str → Option Value} {a b c d : Str} (h : ∀ y, y ≠ a → y ≠ b → y ≠ c → y ≠ d → m₁ y = m0 y) : ∃ u1 u2 u3 u4, m₁ = fun y => if y = a then u1 else if y = b then u2 else if y = c then u3 else if y = d then u4 else m0 y := by
  refine ⟨m₁ a, m₁ b, m₁ c, m₁ d, funext fun y => ?_⟩
  by_cases h1 : y = a
  · simp [h1]
  by_cases h2 : y = b
  · rw [if_neg h1, if_pos h2, h2]
  by_cases h3 : y = c
  · rw [if_neg h1, if_neg h2, if_pos h3, h3]
  by_cases h4 : y = d
  · rw [if_neg h1, if_neg h2, if_neg h3, if_pos h4, h4]
  rw [if_neg h1, if_neg h2, if_neg h3, if_neg h4]; exact h y h1 h2 h3 h4
end Mine
end

section
open PySem PySem.W PyProof.Rows PySem.Calls
set_option maxRecDepth 100000
set_option maxHeartbeats 8000000
namespace Mine
theorem pyIter_up {prog : Program} {w : World} {A : Around} {E : Value → Shared → Prop} {s : Shared} {r : Addr} {n : Nat} {t u v : Tok} {Q : Value → Shared → Prop} (hr : IsRange s.heap r 0 ((n : Int) + 1) 1 t u v) (hn : n ≤ 1000)
    (hQ : Q (.ref s.heap.objs.size) { s with heap := s.heap.push { cls := .type "range_iterator", data := .fields #[rawInt 0, rawInt ((n + 1 : Nat) : Int), rawInt 1] } }) :
    wpAny (model prog w) A (pyIter (.ref r)) Q E s := by
  have hsz : Builtin.Range.rangeSize 0 ((n : Int) + 1) 1 = ((n + 1 : Nat) : Int) := by
    unfold Builtin.Range.rangeSize
    rw [if_pos (by decide), if_pos (by omega)]
    omega
  have hsm : Builtin.Range.small 0 ((n : Int) + 1) 1 = true := by
    unfold Builtin.Range.small
    rw [hsz]
    simp [Builtin.Range.rangeFitsLong]
    omega
  refine wpAny_pyIter_range hr hsm ?_
  rw [hsz]
  exact hQ
abbrev goodT (n : Nat) (ns : List Int) (T : Nat) : Bool := decide ((walkF n (wish n T ns)).2 + (wish n T ns).count (n : Int) = 0)

theorem eqv_empty (k : Nat) : PyData.eqv (.list (List.replicate k PyData.none)) (.list []) = decide (k = 0) := by
  cases k with
  | zero => rfl
  | succ k => simp [List.replicate_succ, PyData.eqv, PyData.eqvAll]
theorem nones_shaped (k : Nat) : SeqAt.shaped (.list (List.replicate k PyData.none)) = true := by
  simp [SeqAt.shaped, PyData.canLay0, PyData.depth, shape_nones, depth_nones]
theorem rangeUp (n : Nat) : Builtin.Range.rangeSize 0 n 1 = n := by unfold Builtin.Range.rangeSize; simp; omega
theorem smallUp (n : Nat) (hn : n ≤ 1000) : Builtin.Range.small 0 n 1 = true := by
  unfold Builtin.Range.small
  rw [rangeUp]
  simp [Builtin.Range.rangeFitsLong]
  omega

theorem law_holds : PySem.Challenge.rw_mr0034_01.Holds := by
  refine hd ?_
  w_strict (
    k_go0
    (all_goals try k_fold)
    k_steps
    rename_i w s0 s1 mg mb G Y fa o pm cd doc ho hcd hgens X V T B TE TW script hs hlay0 hLL hr1 hl2 as6 as5 sl vs3 as2 hLs ra w1 r0 hIs hr hcl hcT hD h1 tk1 ot0 oz0 hot0 hoz0 XX0 X' T' K' C1 l0 D1 ws1 h6 hI1 hC1 hL1 l13 l1a h5 l12 nu wsn h4 hIn l11 h3 tk1 h2 oz hoz tk0 fu hb l1f hcur F1 N1
    rename_i C2
    clear G Y ho hcd X V T B TE TW hs hlay0 hLL hr1 hl2 hLs ra w1 r0 hr hcT hD hoz0 XX0 K'
    obtain ⟨n, hn⟩ : ∃ n, (List.take 4 script ++ [2, 5, 2]).length = n := ⟨_, rfl⟩
    have hn7 : n ≤ 7 := by
      rw [← hn, List.length_append, hC1]
      show min 4 script.length + 3 ≤ 7
      omega
    have hwn : wsn.length = n := hIn.length.trans hn
    obtain ⟨tz, hoz⟩ : ∃ tz, oz.data = .cell (some (.int (n : Int) tz)) := ⟨_, by rw [hoz, ← hn, List.length_append]; rfl⟩
    obtain ⟨nums, hnums⟩ : ∃ nums, nums = List.take 4 script ++ [2, 5, 2] := ⟨_, rfl⟩
    rw [← hnums] at hIn hn
    have hot : ot0.data = .cell none := hot0
    have cx : Cx w _ _ _ _ _ := ⟨X', T', C1, codeHd⟩
    clear hot0 hT8 hT9 hC1 hL1 hcl hIs hI1
    have N1 := news_sub (l' := (30, tabObj #[]) :: (37, tabObj #[]) :: (fu, listOf #[] 0) :: (s1.heap.objs.size + 1 + 1, ot0) :: (nu, listOf wsn.toArray 0) :: [(s1.heap.objs.size + 1, oz)]) N1 (by
      intro q hq
      simp only [List.mem_cons, List.mem_nil_iff, or_false] at hq ⊢
      rcases hq with h | h | h | h | h | h <;> simp [h])
    refine wpAny_For ?_ (by intro _; rfl)
    iterate 9 walk1
    refine range1_rows F1 N1 ?_
    intro h7 tk7 t7 u7 v7 hr7 F7 N7 hk7
    refine pyIter_up hr7 (by omega) ?_
    let m0 : Str → Option Value := fun y => if y = Str.ofString "full" then some (.ref fu) else if y = Str.ofString "numbers" then some (.ref nu) else if y = Str.ofString "script" then some (.ref sl) else none
    have FN8 := iter_push (s := { s1 with heap := h7, toks := tk7 }) (o := { cls := .type "range_iterator", data := .fields #[rawInt 0, rawInt ((n + 1 : Nat) : Int), rawInt 1] }) F7 N7
    have F8 := FN8.1
    have N8 := FN8.2.1
    have hI8 := FN8.2.2
    clear FN8
    obtain ⟨I, hI⟩ : ∃ I, I = h7.objs.size := ⟨_, rfl⟩
    dsimp only at F8 N8 hI8 ⊢
    rw [← hI] at N8 hI8 ⊢
    obtain ⟨m1, F8, hm1⟩ : ∃ m1, Fr (ghostOf s1.heap [(34, 30), (41, 37)]) s1.heap.objs.size (h7.push { cls := .type "range_iterator", data := .fields #[rawInt 0, rawInt ((n + 1 : Nat) : Int), rawInt 1] }) m1 ∧ (∀ y, y ≠ Str.ofString "wishes" → y ≠ Str.ofString "parked" → y ≠ Str.ofString "missing" → y ≠ Str.ofString "left" → m1 y = m0 y) := by
      refine ⟨_, F8, fun y _ _ _ _ => ?_⟩
      show (if y = Str.ofString "full" then some (Value.ref fu) else if y = Str.ofString "numbers" then some (Value.ref nu) else if y = Str.ofString "script" then some (Value.ref sl) else none) = _
      rfl
    let J : Nat → (Str → Option Value) → List (Addr × Obj) → Prop := fun i m₁ news₁ => ∃ (ps qs fv : Array Value) (kf : Nat) (ot : Obj) (nw : List (Addr × Obj)),
      news₁ = (30, tabObj ps) :: (37, tabObj qs) :: (fu, listOf fv kf) :: (s1.heap.objs.size + 1 + 1, ot) :: nw ∧ (nu, listOf wsn.toArray 0) ∈ nw ∧ (s1.heap.objs.size + 1, oz) ∈ nw ∧
      (∀ q ∈ nw, q.1 ≠ 30 ∧ q.1 ≠ 37 ∧ q.1 ≠ fu ∧ q.1 ≠ s1.heap.objs.size + 1 + 1) ∧ TabOk ps spec30 nw ∧ TabOk qs spec37 nw ∧ IntsAre fv.toList (((List.range i).filter (goodT n nums)).map Int.ofNat) ∧ (∃ v, ot.data = .cell v) ∧
      (∀ y, y ≠ Str.ofString "wishes" → y ≠ Str.ofString "parked" → y ≠ Str.ofString "missing" → y ≠ Str.ofString "left" → m₁ y = m0 y)
    have hJ0 : J 0 m1 ((30, tabObj #[]) :: (37, tabObj #[]) :: (fu, listOf #[] 0) :: (s1.heap.objs.size + 1 + 1, ot0) :: (nu, listOf wsn.toArray 0) :: [(s1.heap.objs.size + 1, oz)]) := by
      refine ⟨#[], #[], #[], 0, ot0, _, rfl, .head _, .tail _ (.head _), ?_, TabOk.empty, TabOk.empty, .nil, ⟨_, hot⟩, hm1⟩
      intro q hq
      simp only [List.mem_cons, List.mem_nil_iff, or_false] at hq
      rcases hq with rfl | rfl
      · exact ⟨Nat.ne_of_gt l11.2.2.2.2.1, Nat.ne_of_gt l11.2.2.2.2.2, Nat.ne_of_lt l1f.1, Nat.ne_of_gt l11.2.2.1⟩
      · exact ⟨Nat.ne_of_gt (Nat.lt_succ_of_lt l0.1), Nat.ne_of_gt (Nat.lt_succ_of_lt l0.2), Nat.ne_of_lt l1f.2.2.2.2.1, Nat.ne_of_lt (Nat.lt_succ_self _)⟩
    refine for_gen2 (Walks.range rfl I 0 1 (n + 1)) ?_ F8 N8 hI8 J hJ0 (by passes_own) ?_ ?_ ?_ (fun _ => rfl)
    · simp only [Int.natCast_zero, Int.zero_mul, Int.add_zero, Int.sub_zero]
      rw [hI]
      exact Heap.get?_push_size _ rfl
    · intro i h hst; exact ⟨_, hst⟩
    · clear F8 N8 hI8 F7 N7 F1 N1 hJ0 hm1 hk7 hr7
      rintro i v m₁ news₁ h tk1 oI hlt ⟨tv, rfl⟩ hst ⟨ps, qs, fv, kf, ot, nw, rfl, hnu, hLz, hne, TB, TP, hfv, ⟨cv, hcv⟩, hm⟩ hnI F₁ N₁
      have e0 : (0 : Int) + (i : Nat) * 1 = (i : Int) := by omega
      rw [e0]
      obtain ⟨u1, u2, u3, u4, rfl⟩ := canon4 hm
      clear hm
      have hoI : oI.data = .fields #[rawInt (0 + ((i + 1 : Nat) : Int) * 1), rawInt (((n + 1 : Nat) : Int) - ((i + 1 : Nat) : Int)), rawInt 1] := by
        have e1 : h.get? I = some _ := hst
        have e2 : h.get? I = some oI := (N₁ (I, oI) (.head _)).1
        have e3 := Option.some.inj (e2.symm.trans e1)
        rw [e3]
      clear hst
      have N₁ := news_sub (l' := (s1.heap.objs.size + 1 + 1, ot) :: (I, oI) :: (s1.heap.objs.size + 1, oz) :: (nu, listOf wsn.toArray 0) :: (fu, listOf fv kf) :: (30, tabObj ps) :: (37, tabObj qs) :: nw) N₁ (by
        intro q hq
        simp only [List.mem_cons] at hq ⊢
        rcases hq with h | h | h | h | h | h | h | h
        · simp [h]
        · simp [h]
        · rw [h]; simp [hLz]
        · rw [h]; simp [hnu]
        · simp [h]
        · simp [h]
        · simp [h]
        · simp [h])
      iterate 1 walk1
      refine storeX_C F₁ N₁ rfl (UpdF.head ?_) hcv ?_ rfl rfl
      · intro q hq
        simp only [List.mem_cons] at hq
        rcases hq with rfl | rfl | rfl | rfl | rfl | rfl | hq
        · exact Ne.symm (hnI (s1.heap.objs.size + 1 + 1, ot) (by simp))
        · exact Nat.ne_of_lt (Nat.lt_succ_self _)
        · exact (hne _ hnu).2.2.2
        · exact Nat.ne_of_gt l1f.2.2.2.1
        · exact Nat.ne_of_lt (Nat.lt_succ_of_lt (Nat.lt_succ_of_lt l0.1))
        · exact Nat.ne_of_lt (Nat.lt_succ_of_lt (Nat.lt_succ_of_lt l0.2))
        · exact (hne q hq).2.2.2
      intro h2 ot2 F2 N2 hot2
      clear F₁ N₁
      iterate 2 walk1
      refine asg_list (nu := nu) (vs := wsn) (kn := 0) (fun v y => ∃ (k : Int) (t t' : Tok), v = .int k t ∧ y = .int (Int.fmod (k + (i : Int)) ((n : Int) + 1)) t') F2 N2 (by simp) rfl (by omega) rfl rfl rfl (by decide) rfl (by decide) rfl rfl rfl (by intro _; rfl) ?_ ?_ ?_
      · iterate 1 walk1
        exact ⟨rfl, _, rfl⟩
      · intro C j v s₃ m₃ E' hv hns hmx hnw hbase
        obtain ⟨k, t, rfl⟩ := ints_val hIn j v hv
        refine wpAny_BinOp (wpAny_BinOp (wpAny_Name (wpAny_loadName_local rfl rfl hns hmx (wpAny_Name (wpAny_loadName_cell rfl rfl rfl ⟨ot2, hnw _ (.head _), hot2⟩ (add_int ?_))))))
        refine wpAny_BinOp (wpAny_Name (wpAny_loadName_cell rfl rfl rfl ⟨oz, hnw (s1.heap.objs.size + 1, oz) (by simp), hoz⟩ (wpAny_Constant_int (add_int (mod_int (by omega) ?_)))))
        exact ⟨⟨k, t, _, rfl, rfl⟩, _, _, rfl, fun _ _ e => e⟩
      intro wl h3 tk3 ys k3 F3 N3 hD3 hsz3 hys3
      clear F2 N2
      have hwsi := ints_at (f := fun k => Int.fmod (k + (i : Int)) ((n : Int) + 1)) wsn ys.toList nums hIn (by rw [Array.length_toList, hsz3]) hys3
      obtain ⟨ws, rfl⟩ : ∃ ws : List Value, ys = ws.toArray := ⟨ys.toList, by simp⟩
      have hwsi : IntsAre ws (wish n i nums) := hwsi
      iterate 10 walk1
      have hws30 : ∀ q ∈ (wl, listOf ws.toArray k3) :: (s1.heap.objs.size + 1 + 1, ot2) :: (I, oI) :: (s1.heap.objs.size + 1, oz) :: (nu, listOf wsn.toArray 0) :: (fu, listOf fv kf) :: nw, q.1 ≠ 30 ∧ q.1 ≠ 37 := by
        intro q hq
        simp only [List.mem_cons] at hq
        rcases hq with rfl | rfl | rfl | rfl | rfl | rfl | hq
        · exact ⟨Ne.symm (hD3 (30, tabObj ps) (by simp)), Ne.symm (hD3 (37, tabObj qs) (by simp))⟩
        · exact ⟨Nat.ne_of_gt (Nat.lt_succ_of_lt (Nat.lt_succ_of_lt l0.1)), Nat.ne_of_gt (Nat.lt_succ_of_lt (Nat.lt_succ_of_lt l0.2))⟩
        · exact ⟨Ne.symm (hnI (30, tabObj ps) (by simp)), Ne.symm (hnI (37, tabObj qs) (by simp))⟩
        · exact ⟨(hne _ hLz).1, (hne _ hLz).2.1⟩
        · exact ⟨(hne _ hnu).1, (hne _ hnu).2.1⟩
        · exact ⟨Nat.ne_of_gt l1f.2.2.2.2.2.1, Nat.ne_of_gt l1f.2.2.2.2.2.2⟩
        · exact ⟨(hne q hq).1, (hne q hq).2.1⟩
      have hmem0 : ∀ q ∈ nw, q ∈ (wl, listOf ws.toArray k3) :: (s1.heap.objs.size + 1 + 1, ot2) :: (I, oI) :: (s1.heap.objs.size + 1, oz) :: (nu, listOf wsn.toArray 0) :: (fu, listOf fv kf) :: nw := fun q hq => by simp [hq]
      refine ⟨cx.X.keeps F3.keep, wpAny_call ?_⟩
      refine parked_call (n := n) (kw := k3) (ws := ws) (ns := wish n i nums) (news := (wl, listOf ws.toArray k3) :: (s1.heap.objs.size + 1 + 1, ot2) :: (I, oI) :: (s1.heap.objs.size + 1, oz) :: (nu, listOf wsn.toArray 0) :: (fu, listOf fv kf) :: nw) cx F3 (news_sub N3 ?_) hws30 (TB.mono hmem0) (TP.mono hmem0) (.head _) hwsi (by omega) (by rw [wish_len, hn]; omega) ?_ ?_ ?_
      · intro q hq
        simp only [List.mem_cons] at hq ⊢
        rcases hq with h | h | h | h | h | h | h | h | h <;> simp [h]
      · exact Nat.le_of_ble_eq_true rfl
      · exact rfl
      intro pa vals kk ps4 qs4 nw4 h4 tk4 F4 N4 sub4 fr4 pa30 pa37 hpa4 TB4 TP4 hv4
      clear F3 N3
      dsimp only
      have m_wl : (wl, listOf ws.toArray k3) ∈ nw4 := sub4 _ (.head _)
      have m_tu : (s1.heap.objs.size + 1 + 1, ot2) ∈ nw4 := sub4 _ (.tail _ (.head _))
      have m_I : (I, oI) ∈ nw4 := sub4 _ (.tail _ (.tail _ (.head _)))
      have m_sz : (s1.heap.objs.size + 1, oz) ∈ nw4 := sub4 _ (.tail _ (.tail _ (.tail _ (.head _))))
      have m_nu : (nu, listOf wsn.toArray 0) ∈ nw4 := sub4 _ (.tail _ (.tail _ (.tail _ (.tail _ (.head _)))))
      have m_fu : (fu, listOf fv kf) ∈ nw4 := sub4 _ (.tail _ (.tail _ (.tail _ (.tail _ (.tail _ (.head _))))))
      have uq : ∀ q ∈ nw4, (q.1 = fu → q.2 = listOf fv kf) ∧ (q.1 = s1.heap.objs.size + 1 + 1 → q.2 = ot2) ∧ (q.1 = I → q.2 = oI) := by
        intro q hq
        have e1 := (N4 q (.tail _ (.tail _ (.tail _ hq)))).1
        refine ⟨fun e => ?_, fun e => ?_, fun e => ?_⟩
        · have e2 := (N4 _ (.tail _ (.tail _ (.tail _ m_fu)))).1
          rw [e, e2] at e1; exact (Option.some.inj e1).symm
        · have e2 := (N4 _ (.tail _ (.tail _ (.tail _ m_tu)))).1
          rw [e, e2] at e1; exact (Option.some.inj e1).symm
        · have e2 := (N4 _ (.tail _ (.tail _ (.tail _ m_I)))).1
          rw [e, e2] at e1; exact (Option.some.inj e1).symm
      have N4 := news_sub (l' := (pa, listOf vals kk) :: (s1.heap.objs.size + 1, oz) :: (s1.heap.objs.size + 1 + 1, ot2) :: (30, tabObj ps4) :: (37, tabObj qs4) :: nw4) N4 (by
        intro q hq
        simp only [List.mem_cons] at hq ⊢
        rcases hq with h | h | h | h | h | h
        · simp [h]
        · rw [h]; simp [m_sz]
        · rw [h]; simp [m_tu]
        · simp [h]
        · simp [h]
        · simp [h])
      iterate 18 walk1
      rename Fr _ _ _ _ => F5
      rename News _ _ _ _ => N5
      refine range1_rows F5 N5 ?_
      intro h6 tk6 t6 u6 v6 hr6 F6 N6 hk6
      clear F5 N5
      iterate 1 walk1
      refine kll_range (n := n) rfl F6 N6 hr6 (smallUp n (by omega)) (rangeUp n) (by omega) ?_
      intro xl xs kx h7 tk7 F7 N7 lt7 hxs
      rw [rangeKs_eq] at hxs
      clear F6 N6 hr6 hk6
      iterate 3 walk1
      have npa : ∀ q ∈ (s1.heap.objs.size + 1, oz) :: (s1.heap.objs.size + 1 + 1, ot2) :: (30, tabObj ps4) :: (37, tabObj qs4) :: nw4, q.1 ≠ xl ∧ q.1 ≠ pa := by
        intro q hq
        refine ⟨Nat.ne_of_lt (lt7 q (.tail _ hq)), ?_⟩
        simp only [List.mem_cons] at hq
        rcases hq with rfl | rfl | rfl | rfl | hq
        · exact hpa4 _ m_sz
        · exact hpa4 _ m_tu
        · exact Ne.symm pa30
        · exact Ne.symm pa37
        · exact hpa4 q hq
      refine ⟨cx.X.keeps F7.keep, wpAny_call ?_⟩
      refine uld_call (n := n) (xs := xs) (kx := kx) (vals := vals) (kk := kk) (pk := parkF n (wish n i nums)) (news := (s1.heap.objs.size + 1, oz) :: (s1.heap.objs.size + 1 + 1, ot2) :: (30, tabObj ps4) :: (37, tabObj qs4) :: nw4) cx F7 N7 npa (Nat.ne_of_lt (lt7 (pa, listOf vals kk) (.head _))) hxs hv4 (by omega) (by rw [parkF_length, wish_len, hn]; omega) ?_ ?_ (by exact rfl) (by exact rfl) (by intro q; cases q) ?_ ?_ ?_
      · exact Nat.le_of_ble_eq_true rfl
      · exact rfl
      · decide +kernel
      · decide +kernel
      intro ta ml mv km vals8 kk8 kx8 h8 tk8 F8 N8 hmv hv8 ne8 mlta
      clear F7 N7
      have hturn := turn_law n (wish n i nums) wish_mem
      rw [hturn] at hmv hv8
      dsimp only at hmv hv8
      rw [encO_nones] at hv8
      clear hturn
      dsimp only
      refine unpackN_ F8 N8 (News.isTup N8 (.head _)) rfl rfl rfl ?_
      intro h9 F9 N9
      clear F8 N8
      have N9 := news_sub (l' := (ml, listOf mv km) :: (pa, listOf vals8 kk8) :: (wl, listOf ws.toArray k3) :: (s1.heap.objs.size + 1, oz) :: (s1.heap.objs.size + 1 + 1, ot2) :: (30, tabObj ps4) :: (37, tabObj qs4) :: nw4) N9 (by
        intro q hq
        simp only [List.mem_cons] at hq ⊢
        rcases hq with h | h | h | h | h | h | h | h
        · simp [h]
        · simp [h]
        · rw [h]; simp [m_wl]
        · simp [h]
        · simp [h]
        · simp [h]
        · simp [h]
        · simp [h])
      iterate 16 walk1
      rw [if_neg (by decide)]
      iterate 8 walk1
      rename Fr _ _ _ _ => F10
      rename News _ _ _ _ => N10
      rename_i h10
      have lt10 : ∀ q ∈ (ml, listOf mv km) :: (pa, listOf vals8 kk8) :: (wl, listOf ws.toArray k3) :: (s1.heap.objs.size + 1, oz) :: (s1.heap.objs.size + 1 + 1, ot2) :: (30, tabObj ps4) :: (37, tabObj qs4) :: nw4, q.1 < h10.objs.size := fun q hq => Heap.lt_size (N10 q hq).1
      refine newTuple_N F10 N10 ?_
      intro h11 F11 N11
      obtain ⟨tA, htA⟩ : ∃ tA, tA = h10.objs.size := ⟨_, rfl⟩
      dsimp only at N11 ⊢
      rw [← htA] at N11 lt10 ⊢
      clear F10 N10
      iterate 8 walk1
      refine ⟨cx.X.keeps F11.keep, wpAny_call ?_⟩
      refine walked_call (n := n) (ws := ws) (kw := k3) (ns := wish n i nums) (news := (tA, tup2 (.ref ml) (.ref pa)) :: (ml, listOf mv km) :: (pa, listOf vals8 kk8) :: (s1.heap.objs.size + 1, oz) :: (s1.heap.objs.size + 1 + 1, ot2) :: (30, tabObj ps4) :: (37, tabObj qs4) :: nw4) cx F11 (news_sub N11 ?_) hwsi (by omega) (by rw [wish_len, hn]; omega) ?_ ?_ ?_
      · intro q hq
        simp only [List.mem_cons] at hq ⊢
        rcases hq with h | h | h | h | h | h | h | h | h <;> simp [h]
      · exact Nat.le_of_ble_eq_true rfl
      · exact rfl
      intro tb fl nl fv2 kf2 h12 tk12 F12 N12 hfv2 lt1 lt2 lt3
      clear F11 N11
      dsimp only
      have rd1 : Reads h12 (.ref tA) (pairD ((walkF n (wish n i nums)).1.map Int.ofNat) ((walkF n (wish n i nums)).2 + (wish n i nums).count (n : Int))) _ :=
        reads_tuple_at (N12 (tA, tup2 (.ref ml) (.ref pa)) (by simp)).1 rfl rfl (ReadsAll.cons (reads_newData (ys := mv.toList) ⟨_, (N12 (ml, listOf mv km) (by simp)).1, rfl, km, by simp⟩ (ke_carried hmv)) (ReadsAll.cons (reads_newData (ys := vals8.toList) ⟨_, (N12 (pa, listOf vals8 kk8) (by simp)).1, rfl, kk8, by simp⟩ hv8) ReadsAll.nil))
      have rd2 : Reads h12 (.ref tb) (pairD ((walkF n (wish n i nums)).1.map Int.ofNat) ((walkF n (wish n i nums)).2 + (wish n i nums).count (n : Int))) _ :=
        reads_tuple_at (N12 (tb, tup2 (.ref fl) (.ref nl)) (by simp)).1 rfl rfl (ReadsAll.cons (reads_newData (ys := fv2.toList) ⟨_, (N12 (fl, listOf fv2 kf2) (by simp)).1, rfl, kf2, by simp⟩ (ke_carried hfv2)) (ReadsAll.cons (reads_newData (ys := List.replicate _ Value.none) ⟨_, (N12 (nl, _) (.tail _ (.head _))).1, rfl, 0, rfl⟩ (carried_nones _)) ReadsAll.nil))
      refine ne_dataH rd1 rd2 (pairD_shaped _ _) (pairD_shaped _ _) (Nat.le_of_ble_eq_true rfl) ?_
      rw [pairD_eqv]
      iterate 1 walk1
      rw [if_neg (by decide)]
      clear rd1 rd2
      let nw5 : List (Addr × Obj) := nw4.filter fun q => decide (q.1 ≠ fu) && decide (q.1 ≠ s1.heap.objs.size + 1 + 1) && decide (q.1 ≠ I)
      have mem5 : ∀ q, q ∈ nw5 ↔ q ∈ nw4 ∧ q.1 ≠ fu ∧ q.1 ≠ s1.heap.objs.size + 1 + 1 ∧ q.1 ≠ I := fun q => by
        simp only [nw5, List.mem_filter, Bool.and_eq_true, decide_eq_true_eq, and_assoc]
      have fuI : fu ≠ I := hnI (fu, listOf fv kf) (by simp)
      have L2I : s1.heap.objs.size + 1 + 1 ≠ I := hnI (s1.heap.objs.size + 1 + 1, ot) (by simp)
      have N13 := news_sub (l' := (fu, listOf fv kf) :: (pa, listOf vals8 kk8) :: (I, oI) :: (s1.heap.objs.size + 1, oz) :: (s1.heap.objs.size + 1 + 1, ot2) :: (30, tabObj ps4) :: (37, tabObj qs4) :: nw5) N12 (by
        intro q hq
        simp only [List.mem_cons, mem5] at hq ⊢
        rcases hq with h | h | h | h | h | h | h | h
        · rw [h]; simp [m_fu]
        · simp [h]
        · rw [h]; simp [m_I]
        · simp [h]
        · simp [h]
        · simp [h]
        · simp [h]
        · simp [h.1])
      clear N12
      iterate 9 walk1
      refine newList_N F12 N13 ?_
      intro h14 F14 N14
      dsimp only at N14 ⊢
      have rd1 : Reads h14 (.ref pa) (.list (List.replicate ((walkF n (wish n i nums)).2 + (wish n i nums).count (n : Int)) PyData.none)) _ :=
        reads_newData (ys := vals8.toList) ⟨_, (N14 (pa, listOf vals8 kk8) (by simp)).1, rfl, kk8, by simp⟩ hv8
      have rd2 : Reads h14 (.ref h12.objs.size) (.list []) _ := reads_newData (ys := []) ⟨_, (N14 _ (.head _)).1, rfl, 0, rfl⟩ .nil
      refine eq_dataH rd1 rd2 (nones_shaped _) rfl (Nat.le_of_ble_eq_true rfl) ?_
      rw [eqv_empty]
      clear rd1 rd2
      have N15 := news_sub (l' := (fu, listOf fv kf) :: (I, oI) :: (s1.heap.objs.size + 1, oz) :: (s1.heap.objs.size + 1 + 1, ot2) :: (30, tabObj ps4) :: (37, tabObj qs4) :: nw5) N14 (by
        intro q hq
        simp only [List.mem_cons] at hq ⊢
        rcases hq with h | h | h | h | h | h | h <;> simp [h])
      clear N14 F12 N13
      have endturn : ∀ (fv' : Array Value) (kf' : Nat) (h' : Heap) (tk' : Nat) (m2 : Str → Option Value), Fr (ghostOf s1.heap [(34, 30), (41, 37)]) s1.heap.objs.size h' m2 → (∀ y, y ≠ Str.ofString "wishes" → y ≠ Str.ofString "parked" → y ≠ Str.ofString "missing" → y ≠ Str.ofString "left" → m2 y = m0 y) →
          News (ghostOf s1.heap [(34, 30), (41, 37)]) s1.heap.objs.size h' ((fu, listOf fv' kf') :: (I, oI) :: (s1.heap.objs.size + 1, oz) :: (s1.heap.objs.size + 1 + 1, ot2) :: (30, tabObj ps4) :: (37, tabObj qs4) :: nw5) →
          IntsAre fv'.toList (((List.range (i + 1)).filter (goodT n nums)).map Int.ofNat) →
          ∃ h'' tk'' m₂ news₂, ({ s1 with heap := h', toks := tk' } : Shared) = { s1 with heap := h'', toks := tk'' } ∧ Fr (ghostOf s1.heap [(34, 30), (41, 37)]) s1.heap.objs.size h'' m₂ ∧ News (ghostOf s1.heap [(34, 30), (41, 37)]) s1.heap.objs.size h'' ((I, oI) :: news₂) ∧ (∀ p ∈ news₂, p.1 ≠ I) ∧
            (∀ b ∈ [I], b ≠ I → ∀ o, h.get? b = some o → h''.get? b = some o) ∧ J (i + 1) m₂ news₂ := by
        intro fv' kf' h' tk' m2 Fe hme Ne hie
        have notab : ∀ q ∈ nw4, (∃ vs q' t, q.2.data = .fields vs ∧ vs[1]? = some (.str q' t)) → q ∈ nw5 := by
          rintro q hq ⟨vs, q', t, hd1, hd2⟩
          obtain ⟨c1, c2, c3⟩ := uq q hq
          refine (mem5 q).mpr ⟨hq, fun e => ?_, fun e => ?_, fun e => ?_⟩
          · rw [c1 e] at hd1; cases hd1
          · rw [c2 e, hot2] at hd1; cases hd1
          · rw [c3 e, hoI] at hd1
            injection hd1 with hd1
            rw [← hd1] at hd2
            cases hd2
        refine ⟨h', tk', m2, (30, tabObj ps4) :: (37, tabObj qs4) :: (fu, listOf fv' kf') :: (s1.heap.objs.size + 1 + 1, ot2) :: nw5, rfl, Fe, news_sub Ne ?_, ?_, ?_, ps4, qs4, fv', kf', ot2, nw5, rfl, ?_, ?_, ?_, TB4.move2 notab, TP4.move2 notab, hie, ⟨_, hot2⟩, hme⟩
        · intro q hq
          simp only [List.mem_cons] at hq ⊢
          rcases hq with h | h | h | h | h | h <;> simp [h]
        · intro q hq
          simp only [List.mem_cons] at hq
          rcases hq with rfl | rfl | rfl | rfl | hq
          · exact hnI (30, tabObj ps) (by simp)
          · exact hnI (37, tabObj qs) (by simp)
          · exact fuI
          · exact L2I
          · exact ((mem5 q).mp hq).2.2.2
        · intro b hb hbI
          exact absurd (by simpa using hb) hbI
        · exact (mem5 _).mpr ⟨m_nu, (hne _ hnu).2.2.1, (hne _ hnu).2.2.2, hnI (nu, listOf wsn.toArray 0) (by simp [hnu])⟩
        · exact (mem5 _).mpr ⟨m_sz, (hne _ hLz).2.2.1, (hne _ hLz).2.2.2, hnI (s1.heap.objs.size + 1, oz) (by simp [hLz])⟩
        · intro q hq
          obtain ⟨a, b, c, d⟩ := (mem5 q).mp hq
          refine ⟨?_, ?_, b, c⟩
          · rcases fr4 q a with h | h
            · exact (hws30 q h).1
            · exact h.1
          · rcases fr4 q a with h | h
            · exact (hws30 q h).2
            · exact h.2.1
      iterate 1 walk1
      by_cases hK : (walkF n (wish n i nums)).2 + (wish n i nums).count (n : Int) = 0
      · rw [if_pos (by simpa using hK)]
        iterate 9 walk1
        have hsz : fv.size ≤ i := by
          rw [← Array.length_toList, hfv.length, List.length_map]
          exact Nat.le_trans (List.length_filter_le _ _) (by simp)
        refine append_K (news' := (fu, listOf (fv.push (.int i tv)) (kf + 1)) :: (I, oI) :: (s1.heap.objs.size + 1, oz) :: (s1.heap.objs.size + 1 + 1, ot2) :: (30, tabObj ps4) :: (37, tabObj qs4) :: nw5) F14 N15 (Upd.head ?_) ?_ (by rw [sizeLine_eq]; omega)
        · intro q hq
          simp only [List.mem_cons] at hq
          rcases hq with rfl | rfl | rfl | rfl | rfl | hq
          · exact Ne.symm fuI
          · exact (hne _ hLz).2.2.1
          · exact Nat.ne_of_lt l1f.2.2.2.1
          · exact Nat.ne_of_lt l1f.2.2.2.2.2.1
          · exact Nat.ne_of_lt l1f.2.2.2.2.2.2
          · exact ((mem5 q).mp hq).2.1
        intro h16 F16 N16
        clear F14 N15
        iterate 3 walk1
        refine endturn _ _ h16 _ _ F16 (fun y h1 h2 h3 h4 => by simp [h1, h2, h3, h4]) N16 ?_
        rw [Array.toList_push, List.range_succ, List.filter_append, List.filter_cons_of_pos (by simpa [goodT] using hK), List.map_append]
        exact ints_snoc _ tv hfv
      · rw [if_neg (by simpa using hK)]
        iterate 2 walk1
        refine endturn _ _ h14 _ _ F14 (fun y h1 h2 h3 h4 => by simp [h1, h2, h3, h4]) N15 ?_
        rw [List.range_succ, List.filter_append, List.filter_cons_of_neg (by simpa [goodT] using hK), List.filter_nil, List.append_nil]
        exact hfv
    · clear F8 N8 hI8 F7 N7 F1 N1 hJ0 hm1 hk7 hr7
      rintro h tk1 m₁ news₁ ⟨ps, qs, fv, kf, ot, nw, rfl, hnu, hLz, hne, TB, TP, hfv, ⟨cv, hcv⟩, hm⟩ F₁ N₁
      obtain ⟨u1, u2, u3, u4, rfl⟩ := canon4 hm
      clear hm
      have N₁ := news_sub (l' := (s1.heap.objs.size + 1, oz) :: (nu, listOf wsn.toArray 0) :: (fu, listOf fv kf) :: (30, tabObj ps) :: (37, tabObj qs) :: nw) N₁ (by
        intro q hq
        simp only [List.mem_cons] at hq ⊢
        rcases hq with h | h | h | h | h | h
        · rw [h]; simp [hLz]
        · rw [h]; simp [hnu]
        · simp [h]
        · simp [h]
        · simp [h]
        · simp [h])
      iterate 10 walk1
      refine comp_list (nu := nu) (vs := wsn) (kn := 0) (fun v y => ∃ (k : Int) (t t' : Tok), v = .int k t ∧ y = .int (Int.fmod (k + 0) ((n : Int) + 1)) t') F₁ N₁ (by simp) rfl (by omega) rfl (by decide) rfl (by decide) rfl (by intro _; rfl) ?_ ?_ ?_
      · iterate 1 walk1
        exact ⟨rfl, _, rfl⟩
      · intro C j v s₃ m₃ E' hv hns hmx hnw hbase
        obtain ⟨k, t, rfl⟩ := ints_val hIn j v hv
        refine wpAny_BinOp (wpAny_Name (wpAny_loadName_local rfl rfl hns hmx ?_))
        refine wpAny_BinOp (wpAny_Name (wpAny_loadName_cell rfl rfl rfl ⟨oz, hnw (s1.heap.objs.size + 1, oz) (by simp), hoz⟩ (wpAny_Constant_int (add_int (mod_int (by omega) ?_)))))
        exact ⟨⟨k, t, _, rfl, by rw [Int.add_zero]⟩, _, _, rfl, fun _ _ e => e⟩
      intro wl h3 tk3 ys k3 F3 N3 hD3 hsz3 hys3
      clear F₁ N₁
      have hwsi := ints_at (f := fun k => Int.fmod (k + 0) ((n : Int) + 1)) wsn ys.toList nums hIn (by rw [Array.length_toList, hsz3]) hys3
      obtain ⟨ws, rfl⟩ : ∃ ws : List Value, ys = ws.toArray := ⟨ys.toList, by simp⟩
      have hwsi : IntsAre ws (wish n 0 nums) := hwsi
      iterate 3 walk1
      refine ⟨cx.X.keeps F3.keep, wpAny_call ?_⟩
      refine full_call (n := n) (ws := ws) (kw := k3) (ns := wish n 0 nums) (news := (s1.heap.objs.size + 1, oz) :: (nu, listOf wsn.toArray 0) :: (fu, listOf fv kf) :: (30, tabObj ps) :: (37, tabObj qs) :: nw) cx F3 N3 hwsi (by omega) (by rw [wish_len, hn]; omega) ?_ ?_ ?_
      · exact Nat.le_of_ble_eq_true rfl
      · exact rfl
      intro M h4 tk4 t4 hM1 hM2 F4 N4
      clear F3 N3
      dsimp only
      iterate 1 walk1
      refine newList_N F4 N4 ?_
      intro h5 F5 N5
      dsimp only at N5 ⊢
      have hfull := full_law hn hM1 hM2
      have hms : IntsAre [Value.int ((sumsF n (wish n 0 nums)).idxOf M : Nat) t4] [(((sumsF n (wish n 0 nums)).idxOf M : Nat) : Int)] := .cons _ _ .nil
      have hfv2 : IntsAre fv.toList [(((sumsF n (wish n 0 nums)).idxOf M : Nat) : Int)] := by
        have e : ((List.range (n + 1)).filter (goodT n nums)).map Int.ofNat = [(((sumsF n (wish n 0 nums)).idxOf M : Nat) : Int)] := by
          show (List.filter (fun T : Nat => decide ((walkF n (wish n T nums)).2 + (wish n T nums).count (n : Int) = 0)) (List.range (n + 1))).map Int.ofNat = _
          rw [hfull]; rfl
        rw [e] at hfv; exact hfv
      refine ke_eq_ints (xs := fv.toList) ⟨_, (N5 (fu, listOf fv kf) (by simp)).1, rfl, kf, by simp⟩ (News.isList N5 (.head _)) hfv2 hms (Nat.le_of_ble_eq_true rfl) ?_
      rw [decide_eq_true rfl]
      refine ⟨goodW_bool F5 hgens (raisesW_false ?_) ?_, ?_⟩
      · wrow_none_raised
      · wrow_post
      · exact ⟨GrownAt.of N5 (ps := ps) (by simp), GrownAt.of N5 (ps := qs) (by simp), trivial⟩)
end Mine
end

theorem PySem.Challenge.cw_mr0034_01_holds : PySem.Challenge.rw_mr0034_01.Holds := by
  exact Mine.law_holds

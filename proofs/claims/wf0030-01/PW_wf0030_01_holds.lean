import PyProof.Rows.All
import Wide.All
import OpenK.AllK
import Wide.FinOn
import Lean
import PySem.Challenge.RW_wf0030_01
open PySem PySem.W PyProof.Rows
set_option Elab.async false
set_option maxRecDepth 100000
namespace Mine
set_option maxHeartbeats 8000000 in
open_top hd for PySem.Challenge.rw_wf0030_01
example : True := by
  w_top off
  trivial
section
section
variable {prog : Program} {w : World} {A : Around} {E : Value → Shared → Prop} {h : Heap} {g : Array GenState} {d : Drawn} {t : Nat} {os : OsState} {x : Str} {u : Tok}
theorem kind_hasattr : builtinKind "hasattr" = none := by decide +kernel
theorem plain_hasattr : plainId "hasattr" = true := by decide +kernel
theorem entry_hasattr : entryFor table "hasattr" = some Builtin.«hasattr» := entryFor_of_tree (by kernel_rfl)
theorem args_hasattr_2 (a b : Value) : argsOk "hasattr" ⟨[a, b], []⟩ := by unfold argsOk; kernel_rfl
theorem lk_str_getitem : typeLookup (.type "str") "__getitem__" = pure (some (.builtin "str.__getitem__")) := by rw [typeLookup_type, builtinLookup_eq_fast]; kernel_rfl
theorem typeOf_getitem : typeOf (.builtin "str.__getitem__") = pure (.type "wrapper_descriptor") := by kernel_rfl
theorem slot_wd_get : Slot "wrapper_descriptor" "__get__" "wrapper_descriptor.__get__" :=
  .of (owner := "wrapper_descriptor") (n := "__get__") (by rw [typeLookup_type, builtinLookup_eq_fast]; kernel_rfl) (by decide +kernel) (by decide +kernel) (by decide +kernel)
    (by first | exact .inl (by decide +kernel) | exact .inr (by decide +kernel)) (by rw [isSubtype_type]; kernel_rfl)
theorem entry_wd_get : entryFor table "wrapper_descriptor.__get__" = some Builtin.«wrapper_descriptor.__get__» := entryFor_of_tree (by kernel_rfl)
theorem args_wd_get (a b c : Value) : argsOk "wrapper_descriptor.__get__" ⟨[a, b, c], []⟩ := by unfold argsOk; kernel_rfl
theorem lk_wd_set : typeLookup (.type "wrapper_descriptor") "__set__" = pure none := by rw [typeLookup_type, builtinLookup_eq_fast]; kernel_rfl
theorem lk_wd_del : typeLookup (.type "wrapper_descriptor") "__delete__" = pure none := by rw [typeLookup_type, builtinLookup_eq_fast]; kernel_rfl
theorem owner_str_getitem : (".".intercalate ("str.__getitem__".cutAt '.').dropLast) = "str" := by
  have e0 : "str.__getitem__".cutAt '.' = ["str", "__getitem__"] := by first | rfl | decide +kernel
  rw [e0]; decide +kernel
theorem sub_str_owner : isSubtype (.type "str") (.type (".".intercalate ("str.__getitem__".cutAt '.').dropLast)) = pure true := by rw [owner_str_getitem, isSubtype_type]; kernel_rfl
end
section
variable {prog : Program} {w : World} {A : Around} {E : Value → Shared → Prop} {h : Heap} {g : Array GenState} {d : Drawn} {t : Nat} {os : OsState} {x : Str} {u : Tok}
theorem wd_get_str {R : Result → Shared → Prop} (hq : ∀ v h' t', (∀ b o, h.get? b = some o → h'.get? b = some o) → (v ≠ .builtin "") → handedOut v = pure v → R (.ok (.ret v)) ⟨h', g, d, t', os⟩) :
    codeAny (model prog w) A (.call (.builtin "wrapper_descriptor.__get__") ⟨[.builtin "str.__getitem__", .str x u, .type "str"], []⟩) R ⟨h, g, d, t, os⟩ := by
  have hT : (⟨h, g, d, t, os⟩ : Shared).TypeIs (.str x u) "str" := rfl
  have hT5 : (⟨h, g, d, t, os⟩ : Shared).TypeIs (.builtin "str.__getitem__") "wrapper_descriptor" := typeOf_getitem
  have f8 := sub_str_owner
  refine codeAny_call_builtin slot_wd_get.plain entry_wd_get (slot_wd_get.check _ _ _ _ _ _ _ _ hT5 (args_wd_get _ _ _) ?_)
  repeat (any_goals (first | assumption | wp_step))
  exact hq _ _ _ (fun _ _ e => Heap.get?_push_of_some _ e) (by intro e; cases e) rfl
set_option maxHeartbeats 4000000 in
theorem getitem_entry_str {tk : Tok} {Q : Fin → Shared → Prop} (hq : ∀ v h' t', (∀ b o, h.get? b = some o → h'.get? b = some o) → handedOut v = pure v → Q (.done (.ret v)) ⟨h', g, d, t', os⟩) :
    wpAny (model prog w) A (Builtin.«object.__getattribute__» ⟨[.str x u, .str "__getitem__" tk], []⟩) Q E ⟨h, g, d, t, os⟩ := by
  have hT : (⟨h, g, d, t, os⟩ : Shared).TypeIs (.str x u) "str" := rfl
  have f4 := lk_str_getitem
  have f5 := typeOf_getitem
  have f6 := slot_wd_get.lookup
  have f7 := lk_wd_set
  have f8 := lk_wd_del
  have hT5 : (⟨h, g, d, t, os⟩ : Shared).TypeIs (.builtin "str.__getitem__") "wrapper_descriptor" := f5
  repeat (any_goals (first | assumption | wp_step))
  exact wd_get_str fun v h' t' hk _ ho => wpAny_pure (hq v h' t' hk ho)
theorem getitem_call_str {tk : Tok} {R : Result → Shared → Prop} (hq : ∀ v h' t', (∀ b o, h.get? b = some o → h'.get? b = some o) → handedOut v = pure v → R (.ok (.ret v)) ⟨h', g, d, t', os⟩) :
    codeAny (model prog w) A (.call (.builtin "object.__getattribute__") ⟨[.str x u, .str "__getitem__" tk], []⟩) R ⟨h, g, d, t, os⟩ :=
  codeAny_call_builtin F.slot_str_getattribute.plain F.entry_object_getattribute (F.slot_str_getattribute.check _ _ _ _ _ _ _ _ (show (⟨h, g, d, t, os⟩ : Shared).TypeIs (.str x u) "str" from rfl) (F.args_object_getattribute_2 _ _) (getitem_entry_str hq))
set_option maxHeartbeats 4000000 in
theorem getitem_by_str {tk : Tok} {Q : Value → Shared → Prop} (hq : ∀ v h' t', (∀ b o, h.get? b = some o → h'.get? b = some o) → Q v ⟨h', g, d, t', os⟩) : wpAny (model prog w) A (getAttrBy (.str x u) (.str "__getitem__" tk) false) Q E ⟨h, g, d, t, os⟩ := by
  have hT : (⟨h, g, d, t, os⟩ : Shared).TypeIs (.str x u) "str" := rfl
  have f2 := F.slot_str_getattribute.lookup
  have f3 := F.slot_str_getattribute.bind (.str x u)
  repeat (any_goals (first | assumption | wp_step))
  refine getitem_call_str fun v h' t' hk ho => ?_
  repeat (any_goals (first | assumption | wp_step))
  exact hq v h' t' hk
theorem getitem_by_str? {tk : Tok} {Q : Option Value → Shared → Prop} (hq : ∀ v h' t', (∀ b o, h.get? b = some o → h'.get? b = some o) → Q (some v) ⟨h', g, d, t', os⟩) : wpAny (model prog w) A (getAttrBy? (.str x u) (.str "__getitem__" tk)) Q E ⟨h, g, d, t, os⟩ := by
  unfold getAttrBy?
  exact wpAny_bind (wpAny_attempt (getitem_by_str fun v h' t' hk => wpAny_pure (hq v h' t' hk)))
theorem typeLookup_ga : typeLookup (.type "str") "__getattribute__" = pure (some (.builtin "object.__getattribute__")) := F.slot_str_getattribute.lookup
set_option maxHeartbeats 8000000 in
theorem hasattr_str {tk : Tok} {Q : Value → Shared → Prop} (hq : ∀ h' t', (∀ b o, h.get? b = some o → h'.get? b = some o) → Q (.bool true) ⟨h', g, d, t', os⟩) :
    wpAny (model prog w) A (call (.builtin "hasattr") [.str x u, .str "__getitem__" tk]) Q E ⟨h, g, d, t, os⟩ := by
  refine Calls.call_function_entry kind_hasattr plain_hasattr entry_hasattr (args_hasattr_2 _ _) ?_
  unfold Builtin.«hasattr»
  refine wpAny_bind (wpAny_of_eq (a := [.str x u, .str "__getitem__" tk]) (by first | rfl | kernel_rfl) ?_)
  dsimp only
  refine wpAny_bind (wpAny_of_eq (a := ()) (by first | rfl | kernel_rfl) ?_)
  rw [if_neg (by intro h; cases h)]
  refine wpAny_bind (wpAny_of_eq (a := .type "str") (by first | rfl | kernel_rfl) ?_)
  dsimp only
  refine wpAny_bind (wpAny_of_eq (a := some (Str.ofString "__getitem__")) (by first | rfl | kernel_rfl) ?_)
  dsimp only
  refine wpAny_bind (wpAny_of_eq (a := some (.builtin "str.__getitem__")) lk_str_getitem ?_)
  dsimp only
  refine wpAny_bind (wpAny_of_eq (a := some (.builtin "object.__getattribute__")) typeLookup_ga ?_)
  rw [if_neg (by decide +kernel)]
  refine wpAny_bind (wpAny_of_eq (a := 0) (by first | rfl | kernel_rfl) ?_)
  rw [if_neg (by decide)]
  refine wpAny_bind (getitem_by_str? fun v h' t' hk => ?_)
  exact wpAny_pure ⟨_, rfl, hq h' t' hk⟩
end
end
section
inductive Ex2 {α0 α1 : Type} (p : α0 → α1 → Prop) : Prop
  | mk : ∀ x0 x1, p x0 x1 → Ex2 p
inductive Ex3 {α0 α1 α2 : Type} (p : α0 → α1 → α2 → Prop) : Prop
  | mk : ∀ x0 x1 x2, p x0 x1 x2 → Ex3 p
inductive Ex4 {α0 α1 α2 α3 : Type} (p : α0 → α1 → α2 → α3 → Prop) : Prop
  | mk : ∀ x0 x1 x2 x3, p x0 x1 x2 x3 → Ex4 p
inductive Ex5 {α0 α1 α2 α3 α4 : Type} (p : α0 → α1 → α2 → α3 → α4 → Prop) : Prop
  | mk : ∀ x0 x1 x2 x3 x4, p x0 x1 x2 x3 x4 → Ex5 p
inductive Al3 (a0 a1 a2 : Prop) : Prop
  | mk : a0 → a1 → a2 → Al3 a0 a1 a2
inductive Al4 (a0 a1 a2 a3 : Prop) : Prop
  | mk : a0 → a1 → a2 → a3 → Al4 a0 a1 a2 a3
inductive Al5 (a0 a1 a2 a3 a4 : Prop) : Prop
  | mk : a0 → a1 → a2 → a3 → a4 → Al5 a0 a1 a2 a3 a4
noncomputable abbrev PR : Program := Challenge.rw_wf0030_01.row.prog

noncomputable def Shut {α : Type} (P : α → Shared → Prop) (a : α) (s : Shared) : Prop := P a s
theorem shut {α : Type} {R P : α → Shared → Prop} {a : α} {s : Shared} (hP : ∀ a s, R a s → Shut P a s) (h : R a s) : Shut P a s := hP a s h
theorem shutE {M : Model} {A : Around} {env : Env} {t : Sem Flow} {R : Flow → Shared → Prop} {Q₁ : Value → Shared → Prop} {E₁ : Value → Shared → Prop} {s : Shared} (h : ∀ P E', PassesOwn M A env E' → (∀ a s, R a s → Shut P a s) → wpAny M A t (Shut P) E' s) : wpAny M A t R (fun e s' => wpAny M A (leaving env e) (fun _ s'' => Q₁ e s'') E₁ s') s := h R _ PassesOwn.leaving fun _ _ x => x
theorem shutX {M : Model} {A : Around} {st : Stmt} {rest : List Stmt} {env : Env} {Q : Flow → Shared → Prop} {E : Value → Shared → Prop} {h : Heap} {g : Array GenState} {d : Drawn} {t : Nat} {o : OsState}
    (H : ∀ (tk : Nat) (P : Flow → Shared → Prop), (∀ f s', (match f with | .next => wpAny M A (execs rest env) Q E s' | f => Q f s') → Shut P f s') → wpAny M A (exec st env) (Shut P) E { heap := h, gens := g, drawn := d, toks := tk, os := o }) :
    wpAny M A (execs (st :: rest) env) Q E { heap := h, gens := g, drawn := d, toks := t, os := o } := wpAny_execs_cons (H t _ fun _ _ x => x)
theorem un0 {u b c n : Nat} (h : u + c < n) (hc : b ≤ c) : u + b < n := Nat.lt_of_le_of_lt (Nat.add_le_add_left hc u) h
theorem un1 {u a b c n : Nat} (h : u + c < n) (hc : a + b ≤ c) : u + a + b < n := Nat.add_assoc u a b ▸ un0 h hc
theorem un2 {u a a' b c n : Nat} (h : u + c < n) (hc : a + a' + b ≤ c) : u + a + a' + b < n := Nat.add_assoc u a a' ▸ un1 h hc
theorem un3 {u a a' a'' b c n : Nat} (h : u + c < n) (hc : a + a' + a'' + b ≤ c) : u + a + a' + a'' + b < n := Nat.add_assoc u a a' ▸ un2 h hc
noncomputable def LeaveF (g : Heap) (R : Result → Shared → Prop) (v : Value) (s' : Shared) : Prop :=
  (∀ b o, g.get? b = some o → s'.heap.get? b = some o) ∧ R (.ok (.ret v)) s'

section
variable {prog : Program} {w : World} {A A₀ : Around} {s : Shared} {K : Frag} {L : Addr} {h₀ base : Heap} {m mg mb : Str → Option Value} {p : Program} {loose : List Str} {mean : ExcName → Option Value}

theorem code_F {hs : Heap} {gS : Array GenState} {dS : Drawn} {tS : Nat} {oS : OsState} {env : Env} {outer : List Env} {R : Result → Shared → Prop} {name qual : Str} {params : Arguments} {body : List Stmt} {scope : Scope} {dV kV doc pm cdv ct oc : Value} {an od : Option Addr} {osl : Array (Option Value)} {f : Addr} {args : Args} {binds : List (Str × Value)}
    (B : Below A₀ base outer h₀) (F : Fr h₀ L hs m) (X₀ : K.In h₀) (T : Top p loose mean mg mb h₀) (hA : A.frames = some (env :: outer)) (hf : env.frame = some L) (hke : env.scope.kind = .function)
    (ho : K.lookup f = some ⟨oc, od, .func (fnOf name qual params body scope dV kV doc pm an cdv ct), osl⟩) (hcd : codeIn K cdv qual = true) (hroom : A.depth < recursionLimit)
    (hbind : BindsTo { heap := hs, gens := gS, drawn := dS, toks := tS, os := oS } (fnOf name qual params body scope dV kV doc pm an cdv ct) args binds) (hloc : ∀ y ∈ binds, scope.names.lookup y.1 = some .local)
    (h : ∀ L' h₁, Fr hs L' h₁ (fun y => binds.reverse.lookup y) → News hs L' h₁ [] → Below A base (env :: outer) hs → K.In hs → Top p loose mean mg mb hs →
      wpAny (model prog w) (A.deeper (envOf qual scope L' f cdv)) (execs body (envOf qual scope L' f cdv))
        (fun fl s' => LeaveF hs R (match fl with | .ret v => v | _ => .none) s')
        (fun e s' => wpAny (model prog w) (A.deeper (envOf qual scope L' f cdv)) (leaving (envOf qual scope L' f cdv) e) (fun _ s'' => R (.error e) s'') (fun e' s'' => R (.error e') s'') s')
        { heap := h₁, gens := gS, drawn := dS, toks := tS + binds.length, os := oS })
    (hco : scope.isCoroutine = false) (hgen : scope.isGenerator = false) (hk : scope.kind = .function)
    (hcell : ∀ x ∈ scope.names, x.2 ≠ .cell) : codeAny (model prog w) A (.call (.ref f) args) R { heap := hs, gens := gS, drawn := dS, toks := tS, os := oS } := by
  refine codeAny_call_def (fd := fnOf name qual params body scope dV kV doc pm an cdv ct) (body := body) (binds := binds) hroom ((X₀.keeps F.keep) _ _ ho) rfl (T.nolimit.keeps F.keep) (codeRec_of (X₀.keeps F.keep) hcd) rfl hbind hcell hloc (fun h₁ hns hk₁ => ?_) hco hgen hk
  have B₁ := pushX B F hf hke
  exact wpAny_mono (h hs.objs.size h₁ ⟨hns, hk₁, Nat.le_refl _⟩ News.nil ⟨hA, fun b o e => F.keep b o (B.stays b o e), B₁.frames⟩ (X₀.keeps F.keep) (T.keeps F.keep)) (fun fl s' hl => hl.2) fun _ _ y => y

theorem code_FC {hs : Heap} {gS : Array GenState} {dS : Drawn} {tS : Nat} {oS : OsState} {env : Env} {outer : List Env} {R : Result → Shared → Prop} {name qual : Str} {params : Arguments} {body : List Stmt} {scope : Scope} {dV kV doc pm cdv ct oc : Value} {an od : Option Addr} {osl : Array (Option Value)} {f : Addr} {args : Args} {binds : List (Str × Value)}
    (B : Below A₀ base outer h₀) (F : Fr h₀ L hs m) (X₀ : K.In h₀) (T : Top p loose mean mg mb h₀) (hA : A.frames = some (env :: outer)) (hf : env.frame = some L) (hke : env.scope.kind = .function)
    (ho : K.lookup f = some ⟨oc, od, .func (fnOf name qual params body scope dV kV doc pm an cdv ct), osl⟩) (hcd : codeIn K cdv qual = true) (hroom : A.depth < recursionLimit)
    (hbind : BindsTo { heap := hs, gens := gS, drawn := dS, toks := tS, os := oS } (fnOf name qual params body scope dV kV doc pm an cdv ct) args binds) (hkind : (binds.all fun y => scope.names.lookup y.1 == some .local || scope.names.lookup y.1 == some .cell) = true)
    (hnd : ((cellsFrom 0 scope.names []).map (·.1)).Nodup)
    (h : ∀ L' h₁ tk cells, Fr hs L' h₁ (bindL (envOfC qual scope L' f cdv).kindOf binds fun _ => none) → News hs L' h₁ cells →
      CellsAre (bindC (envOfC qual scope L' f cdv).kindOf binds fun _ => none) (cellsFrom (L' + 1) scope.names []) cells → Below A base (env :: outer) hs → K.In hs → Top p loose mean mg mb hs →
      wpAny (model prog w) (A.deeper (envOfC qual scope L' f cdv)) (execs body (envOfC qual scope L' f cdv))
        (fun fl s' => LeaveF hs R (match fl with | .ret v => v | _ => .none) s')
        (fun e s' => wpAny (model prog w) (A.deeper (envOfC qual scope L' f cdv)) (leaving (envOfC qual scope L' f cdv) e) (fun _ s'' => R (.error e) s'') (fun e' s'' => R (.error e') s'') s')
        { heap := h₁, gens := gS, drawn := dS, toks := tk, os := oS })
    (hco : scope.isCoroutine = false) (hgen : scope.isGenerator = false) (hk : scope.kind = .function) : codeAny (model prog w) A (.call (.ref f) args) R { heap := hs, gens := gS, drawn := dS, toks := tS, os := oS } := by
  refine codeAny_call_function hroom ((X₀.keeps F.keep) _ _ ho) rfl hco hgen rfl (codeRec_of (X₀.keeps F.keep) hcd) (hbind _ _ _ _ ?_)
  refine wpAny_newFunctionEnv_cells hk (kindsX hkind _) fun env' he s' x => ?_
  subst he
  refine ⟨(T.nolimit.keeps F.keep).keeps x.toInCall.keep, codeAny_func ?_⟩
  obtain ⟨h₁, tk, rfl, _⟩ := x.done
  have hk₁ := x.toInCall.keep
  obtain ⟨cells, NC, Y⟩ := Cl.news (h₀ := hs) (Nat.le_refl _) fun n c hm => ⟨x.cell n c (lookup_of_mem_nodup (cellsFrom_names scope.names 0 (hs.objs.size + 1) [] [] rfl ▸ hnd) hm), x.above n c hm⟩
  have B₁ := pushX B F hf hke
  exact wpAny_mono (h hs.objs.size h₁ tk cells ⟨x.toInCall.ns, hk₁, Nat.le_refl _⟩ NC Y ⟨hA, fun b o e => F.keep b o (B.stays b o e), B₁.frames⟩ (X₀.keeps F.keep) (T.keeps F.keep)) (fun fl s' hl => hl.2) fun _ _ y => y

theorem fr_up {h h' : Heap} (F : Fr h₀ L h m) (k : ∀ b o, h.get? b = some o → h'.get? b = some o) : Fr h₀ L h' m := ⟨F.ns.keeps k, fun b o e => k b o (F.keep b o e), F.above⟩
theorem news_up {h h' : Heap} {news : List (Addr × Obj)} (N : News h₀ L h news) (k : ∀ b o, h.get? b = some o → h'.get? b = some o) : News h₀ L h' news := fun q hq => ⟨k _ _ (N q hq).1, (N q hq).2⟩
end

noncomputable def PCall (w : World) (f : Addr) (args : List Value) (dd du : Nat) (pre : Heap → Prop) (post : Heap → Heap → Value → Prop) : Prop :=
  ∀ (p : Program) (loose : List Str) (mean : ExcName → Option Value) (mg mb : Str → Option Value) (dp un : Nat) (gd : Option (List Code)) (cn : Str) (cs : Scope) (a : Addr) (ccd : Value) (cl : List (Str × Addr)) (outer : List Env) (A₀ : Around) (base h₀ : Heap) (L : Addr) (m : Str → Option Value) (s : Heap) (gS : Array GenState) (dS : Drawn) (tS : Nat) (oS : OsState) (Q E : Value → Shared → Prop),
    Below A₀ base outer h₀ → Fr h₀ L s m → (Mine.hd.heap_39 w.params).In h₀ → Top p loose mean mg mb h₀ → cs.kind = .function → dp + dd < recursionLimit → un + du < cLine → pre s →
    (∀ v h' tk', (∀ b o, s.get? b = some o → h'.get? b = some o) → post s h' v → Q v { heap := h', gens := gS, drawn := dS, toks := tk', os := oS }) →
    wpAny (model PR w) (ktrTop dp un gd cn cs L a ccd cl outer) (call (.ref f) args) Q E { heap := s, gens := gS, drawn := dS, toks := tS, os := oS }


theorem leaveF_ {g : Heap} {L : Addr} {m : Str → Option Value} {R : Result → Shared → Prop} {v : Value} {s' : Shared} (F : Fr g L s'.heap m) (h : (∀ b o, g.get? b = some o → s'.heap.get? b = some o) → R (.ok (.ret v)) s') : LeaveF g R v s' := ⟨F.keep, h F.keep⟩

theorem PCall.use {w : World} {f : Addr} {args : List Value} {dd du : Nat} {pre : Heap → Prop} {post : Heap → Heap → Value → Prop} (C : PCall w f args dd du pre post)
    {p : Program} {loose : List Str} {mean : ExcName → Option Value} {mg mb : Str → Option Value} {dp un : Nat} {gd : Option (List Code)} {cn : Str} {cs : Scope} {a : Addr} {ccd : Value} {cl : List (Str × Addr)} {outer : List Env} {A₀ : Around} {base h₀ : Heap} {L : Addr} {m : Str → Option Value} {s : Heap} {gS : Array GenState} {dS : Drawn} {tS : Nat} {oS : OsState} {Q E : Value → Shared → Prop} {news : List (Addr × Obj)}
    (B : Below A₀ base outer h₀) (F : Fr h₀ L s m) (N : News h₀ L s news) (X : (Mine.hd.heap_39 w.params).In h₀) (T : Top p loose mean mg mb h₀) (hk : cs.kind = .function) (hd : dp + dd < recursionLimit) (hu : un + du < cLine) (hp : pre s)
    (hret : ∀ v h' tk', (∀ b o, s.get? b = some o → h'.get? b = some o) → post s h' v → Fr h₀ L h' m → News h₀ L h' news → Q v { heap := h', gens := gS, drawn := dS, toks := tk', os := oS }) :
    wpAny (model PR w) (ktrTop dp un gd cn cs L a ccd cl outer) (call (.ref f) args) Q E { heap := s, gens := gS, drawn := dS, toks := tS, os := oS } :=
  C p loose mean mg mb dp un gd cn cs a ccd cl outer A₀ base h₀ L m s gS dS tS oS Q E B F X T hk hd hu hp fun v h' tk' k q => hret v h' tk' k q (fr_up F k) (news_up N k)
noncomputable def NewAt (h0 h : Heap) (f : Addr) (o : Obj) : Prop := h.get? f = some o ∧ h0.get? f = none
theorem News.newAt {h₀ h : Heap} {L : Addr} {news : List (Addr × Obj)} (N : News h₀ L h news) {f : Addr} {o : Obj} (m : (f, o) ∈ news) : NewAt h₀ h f o := ⟨(N _ m).1, (N _ m).2.2⟩
end
example : (PySem.Challenge.rw_wf0030_01, Mine.hd.heap_39) = (PySem.Challenge.rw_wf0030_01, Mine.hd.heap_39) := by
  k_fill
  rfl
local macro_rules | `(tactic| k_steps) => `(tactic| repeat' (first | (k_unfold; (try dsimp only)) | (dsimp only; k_unfold; (try dsimp only)) | walk1 | (dsimp only; walk1) | fail "no step"))
local macro_rules | `(tactic| walk_at $s:str) => `(tactic| k_extra $s)
example : True := by
  k_with_none
  k_with "LeaveF" => (refine leaveF_ (by k_asm) ?_; intro kk; (try dsimp only))
  k_with "Shut" => (refine shut (by assumption) ?_; (try dsimp only))
  k_with "execs cons" => (refine shutX ?_; intro tX PX hPX)
  trivial
local macro_rules | `(tactic| k_fmods) => `(tactic| skip)
section
noncomputable def over (u : Str → Option Value) : List (Str × Value) → Str → Option Value
  | [], y => u y
  | (x, v) :: r, y => if y = x then some v else over u r y
theorem over_eq {m : Str → Option Value} : ∀ (ps : List (Str × Value)), (∀ q ∈ ps, m q.1 = some q.2) → over m ps = m
  | [], _ => rfl
  | (x, v) :: r, h => by
    have ih := over_eq r fun q hq => h q (List.mem_cons_of_mem _ hq)
    funext y
    show (if y = x then some v else over m r y) = m y
    rw [ih]
    by_cases e : y = x
    · rw [if_pos e, e]; exact (h (x, v) (List.mem_cons_self ..)).symm
    · rw [if_neg e]
noncomputable def AllAt (m : Str → Option Value) : List (Str × Value) → Prop
  | [] => True
  | (x, v) :: r => m x = some v ∧ AllAt m r
theorem AllAt.mem {m : Str → Option Value} {ps : List (Str × Value)} : AllAt m ps → ∀ q ∈ ps, m q.1 = some q.2 := by
  induction ps with
  | nil => intro _ q hq; cases hq
  | cons p r ih =>
    intro h q hq
    rcases List.mem_cons.mp hq with rfl | hq
    · exact h.1
    · exact ih h.2 q hq
theorem fr_over {h₀ h : Heap} {L : Addr} {m : Str → Option Value} (F : Fr h₀ L h m) (ps : List (Str × Value)) (hp : AllAt m ps) : Fr h₀ L h (over m ps) := by
  rw [over_eq ps hp.mem]; exact F

section
variable {prog : Program} {w : World} {A : Around} {E : Value → Shared → Prop} {s : Shared} {env : Env} {h₀ : Heap} {target : Expr} {body : List Stmt} {Q : Flow → Shared → Prop}
theorem iter_listBase {ax : Addr} {vs : List Value} {m₀ : Str → Option Value} {news : List (Addr × Obj)}
    (hh : A.handled = none) (F : Fr h₀ env.locals s.heap m₀) (N : News h₀ env.locals s.heap news) (hg : h₀.IsList ax vs.toArray)
    (rest₀ : ∀ I : Addr, (∀ p ∈ news, p.1 < I) → ItemsRest prog w A E h₀ env target body Q s [(I, "list_iterator")] [] (vs.map .val) m₀ news) :
    wpAny (model prog w) A (pyIter (.ref ax)) (fun it s₂ => TurnsAt prog w A h₀ env target body Q E it s₂) E s := by
  obtain ⟨lo, hlo, hc, n, hd⟩ := hg
  have hax : s.heap.get? ax = some lo := F.keep _ _ hlo
  have hl : s.heap.IsList ax vs.toArray := ⟨lo, hax, hc, n, hd⟩
  have hlt : ax < s.heap.objs.size := Heap.lt_size hax
  have hne : ax ≠ s.heap.objs.size := Nat.ne_of_lt hlt
  refine wpAny_pyIter_list hl ?_
  refine ktg_core (tk0 := s.toks) (keep := []) (KTurns.ofWalks (Walks.list hh s.heap.objs.size ax hne vs.toArray) fun i v s Q E st q => letGo_listiter st.1 q) (by simp) (fun i v h hp => ⟨.val v, ?_, rfl⟩) (fun i h st => ?_) (fun b hb => ?_) (fun b hb => by simpa using hb) (fun b hb => ?_) ?_ (fun p hp hI => ?_) ?_ (F.push _) (fun p hp => ⟨Heap.get?_push_of_some _ (N p hp).1, (N p hp).2⟩) trivial (rest₀ _ fun p hp => Heap.lt_size (N p hp).1)
  · have hp' : vs.toArray[i]? = some v := hp
    simpa using hp'
  · obtain ⟨it, hit, hic, _⟩ := st.1
    exact ⟨[(s.heap.objs.size, it)], ⟨⟨rfl, hic⟩, trivial⟩, fun p hp => by rw [List.mem_singleton.mp hp]; exact hit⟩
  · have hb' : b = s.heap.objs.size := by simpa using hb
    rw [hb']
    exact ⟨List.mem_cons_self .., next_is_new F⟩
  · have hb' : b = s.heap.objs.size ∨ b = ax := by simpa using hb
    rcases hb' with e | e
    · exact .inl (by simp [e])
    · exact .inr (.inr ⟨lo, by rw [e]; exact hlo⟩)
  · intro hI
    rcases List.mem_cons.mp hI with e | hI
    · exact absurd F.ns.lt (e ▸ Nat.lt_irrefl _)
    · have e : env.locals = ax := List.mem_singleton.mp hI
      exact absurd (Heap.lt_size hlo) (Nat.not_lt.mpr (e ▸ F.above))
  · exact absurd (Heap.lt_size (N p hp).1) ((List.mem_singleton.mp hI) ▸ Nat.lt_irrefl _)
  · exact ⟨⟨_, Heap.get?_push_size _ rfl, rfl, rfl⟩, hl.at fun o e => Heap.get?_push_of_some _ e⟩
end

theorem allObj_mono : ∀ {ws : List (Addr × String)} {k k' : List (Addr × Obj) → Prop}, (∀ its, k its → k' its) → AllObj ws k → AllObj ws k'
  | [], _, _, hm, h => hm _ h
  | _ :: _, _, _, hm, h => fun o ho => allObj_mono (fun its x => hm _ x) (h o ho)
section
variable {prog : Program} {w : World} {A : Around} {E : Value → Shared → Prop} {s : Shared} {env : Env} {h₀ : Heap} {target : Expr} {body : List Stmt} {Q : Flow → Shared → Prop}
theorem itemsRest_ind {β : Type} {ws : List (Addr × String)} {keep : List (Addr × Obj)} (R : Value → β → Prop) (J : List β → (Str → Option Value) → List (Addr × Obj) → Prop)
    (step : ∀ v q rest m news, R v q → J (q :: rest) m news → ∀ h tk, Fr h₀ env.locals h m → AllObj ws (fun its => News h₀ env.locals h (its ++ news) →
      ∀ P : Flow → Shared → Prop, (∀ f s₂, UnrPostW h₀ env.locals { s with heap := h, toks := tk } its (fun m' n' => SubL keep n' ∧ J rest m' n') Q f s₂ → Shut P f s₂) →
      wpAny (model prog w) A (assign target env v) (fun _ s₂ => wpAny (model prog w) A (execs body env) (Shut P) E s₂) E { s with heap := h, toks := tk }))
    (done : ∀ m news, J [] m news → ∀ h tk, Fr h₀ env.locals h m → News h₀ env.locals h news → Q .next { s with heap := h, toks := tk }) :
    ∀ {vs : List Value} {qs : List β}, Paired R vs qs → ∀ m news, J qs m news → ItemsRest prog w A E h₀ env target body Q s ws keep (vs.map .val) m news := by
  intro vs qs hp
  induction hp with
  | nil => exact fun m news hj => ItemsRest.zero (done m news hj)
  | @cons v q vs qs hv _ ih =>
    intro m news hj
    refine ItemsRest.val fun h tk F => ?_
    have z := step v q qs m news hv hj h tk F
    refine allObj_mono (fun its y N => ?_) z
    refine wpAny_mono (y N _ fun _ _ x => x) (fun _ s₂ h₂ => wpAny_mono h₂ (fun f s₃ h₃ => ?_) fun _ _ e => e) fun _ _ e => e
    have up : UnrEndW h₀ env.locals { s with heap := h, toks := tk } its (fun m' n' => SubL keep n' ∧ J qs m' n') s₃ →
        UnrEndW h₀ env.locals { s with heap := h, toks := tk } its (fun m' n' => SubL keep n' ∧ ItemsRest prog w A E h₀ env target body Q s ws keep (vs.map .val) m' n') s₃ := by
      rintro ⟨h', tk', m', news', e, F', N', ho, hk, hj'⟩
      exact ⟨h', tk', m', news', e, F', N', ho, hk, ih m' news' hj'⟩
    cases f with
    | ret v => exact h₃
    | brk => exact h₃
    | next => exact up h₃
    | cont => exact up h₃
end
noncomputable def Kept (P : Prop) : Prop := P
theorem held {P : Prop} (h : Kept P) : P := h
theorem strsAre_append {vs ws : List Value} {xs ys : List Str} (hv : StrsAre vs xs) (hw : StrsAre ws ys) : StrsAre (vs ++ ws) (xs ++ ys) := by
  induction hv with
  | nil => exact hw
  | cons y t _ ih => exact .cons y t ih
theorem strsAre_length {vs : List Value} {xs : List Str} (hv : StrsAre vs xs) : vs.length = xs.length := by
  induction hv with
  | nil => rfl
  | cons y t _ ih => exact congrArg Nat.succ ih
end
section
example : True := by
  k_with_none
  k_with "LeaveF" => (refine leaveF_ (by k_asm) ?_; intro kk; (try dsimp only))
  k_with "Shut" => (refine shut (by assumption) ?_; (try dsimp only))
  k_with "execs cons" => (refine shutX ?_; intro tX PX hPX)
  k_with "call builtin:hasattr" => (k_here; refine held ?_)
  trivial
set_option maxHeartbeats 8000000 in
theorem concat_spec {w : World} (x y : Str) (tx ty : Tok) (hx : x.length ≤ 1000) (hy : y.length ≤ 1000) :
   PCall w 21 [.str x tx, .str y ty] 2 8 (fun _ => True) (fun _ _ v => ∃ t, v = .str (x ++ y) t) := by
  unfold PCall
  intro p loose mean mg mb dp un gd cn cs a ccd cl outer A₀ base h₀ L m s gS dS tS oS Q E B F X T hk hd hu hpre hret
  refine wpAny_call ?_
  (refine' code_F ?k1 ?k2 ?k3 ?k5 ?kA ?kF ?kK ?k6 ?k7 ?k8 ?k9 ?kB ?_ ?c2 ?c3 ?c4 ?c5; (case kA => exact rfl); (case kF => exact rfl); (case kK => assumption); (case k1 => k_asm); (case k2 => k_asm); (case k3 => k_asm); (case k5 => k_asm); (case k6 => k_is); (case k7 => k_is); (case k8 => first | exact Nat.lt_of_le_of_lt (Nat.le_add_right _ _) (by assumption) | exact un0 (by assumption) (by decide) | exact un1 (by assumption) (by decide) | ktr_room); (case k9 => exact BindsTo.of_eq rfl); (case c5 => decide); (case kB => exact locs rfl); (case c2 => exact rfl); (case c3 => exact rfl); (case c4 => exact rfl); k_whole; intro L' h' F' N' B' X' T'; (try dsimp only); refine shutE ?_; intro P' E' hE' hP'; (try k_fold))
  k_steps
  all_goals repeat ((unfold Kept; (with_reducible show wpAny _ _ (call (Value.builtin _) [Value.str _ _, Value.str _ _]) _ _ _); k_dflt (refine' hasattr_str ?_); intro hQ tQ kQ; (have FQ := fr_up (by k_asm) kQ); (have NQ := news_up (by k_asm) kQ); (try dsimp only)); k_steps)
  exact hret _ _ _ (by assumption) ⟨_, rfl⟩
end
section
example : True := by
  k_with_none
  k_with "LeaveF" => (refine leaveF_ (by k_asm) ?_; intro kk; (try dsimp only))
  k_with "Shut" => (refine shut (by assumption) ?_; (try dsimp only))
  k_with "execs cons" => (refine shutX ?_; intro tX PX hPX)
  k_with "call ref" => (k_here; (with_reducible show wpAny _ _ (call (Value.ref 21) _ _) _ _ _); refine held ?_)
  trivial
noncomputable abbrev Cut := Int × Int × Int × Int
noncomputable def CutAt (h : Heap) (v : Value) (q : Cut) : Prop := (Ex5 fun T t1 t2 t3 t4 => v = .ref T ∧ IsTup h T #[.int q.1 t1, .int q.2.1 t2, .int q.2.2.1 t3, .int q.2.2.2 t4])
noncomputable def CutsAt (h : Heap) (c : Addr) (cs : List Cut) : Prop := ∃ vs : List Value, h.IsList c vs.toArray ∧ Paired (CutAt h) vs cs
noncomputable def StrsAt (h : Heap) (f : Addr) (xs : List Str) : Prop := (Ex2 fun vs n => h.get? f = some (listOf vs.toArray n) ∧ StrsAre vs xs)
noncomputable def exch1 (x : Str) (q : Cut) : Str :=
  Txt.slice x none (some q.1) ++ Txt.slice x (some q.2.2.1) (some q.2.2.2) ++ (Txt.slice x (some q.2.1) (some q.2.2.1) ++ (Txt.slice x (some q.1) (some q.2.1) ++ Txt.slice x (some q.2.2.2) none))
set_option maxHeartbeats 8000000 in
theorem exch_spec {w : World} (x : Str) (tx : Tok) (c : Addr) (cs : List Cut) (hx : x.length ≤ 100) (hn : cs.length ≤ 1000) :
   PCall w 133 [.str x tx, .ref c] 8 40 (fun h => CutsAt h c cs) (fun h0 h v => (Ex3 fun f vs n => Al3 (v = .ref f) (NewAt h0 h f (listOf (List.toArray vs) n)) (StrsAre vs (cs.map (exch1 x))))) := by
  unfold PCall
  intro p loose mean mg mb dp un gd cn cs' a ccd cl outer A₀ base h₀ L m s gS dS tS oS Q E B F X T hk hd hu hpre hret
  obtain ⟨vs, hl, hcs⟩ := hpre
  refine wpAny_call ?_
  (refine' code_F ?k1 ?k2 ?k3 ?k5 ?kA ?kF ?kK ?k6 ?k7 ?k8 ?k9 ?kB ?_ ?c2 ?c3 ?c4 ?c5; (case kA => exact rfl); (case kF => exact rfl); (case kK => assumption); (case k1 => k_asm); (case k2 => k_asm); (case k3 => k_asm); (case k5 => k_asm); (case k6 => k_is); (case k7 => k_is); (case k8 => first | exact Nat.lt_of_le_of_lt (Nat.le_add_right _ _) (by assumption) | exact un0 (by assumption) (by decide) | exact un1 (by assumption) (by decide) | ktr_room); (case k9 => exact BindsTo.of_eq rfl); (case c5 => decide); (case kB => exact locs rfl); (case c2 => exact rfl); (case c3 => exact rfl); (case c4 => exact rfl); k_whole; intro L' h' F' N' B' X' T'; (try dsimp only); refine shutE ?_; intro P' E' hE' hP'; (try k_fold))
  k_steps
  all_goals repeat ((unfold Kept; (with_reducible show wpAny _ _ (call (Value.ref 21) [Value.str _ _, Value.str _ _]) _ _ _); k_dflt (refine' PCall.use (concat_spec _ _ _ _ ?hx ?hy) ?k1 ?k2 ?kN ?k3 ?k4 ?k5 ?kd ?ku trivial ?_); (case hx => first | ((try simp only [Str.length_append]); omega) | decide +kernel); (case hy => first | ((try simp only [Str.length_append]); omega) | decide +kernel); (case k1 => k_asm); (case k2 => k_asm); (case kN => k_asm); (case k3 => k_asm); (case k4 => k_asm); (case k5 => first | exact rfl | assumption); (case kd => first | exact un1 (by assumption) (by decide) | exact un2 (by assumption) (by decide) | ktr_room); (case ku => first | exact un1 (by assumption) (by decide) | exact un2 (by assumption) (by decide) | ktr_units); intro vQ hQ tQ kQ pQ FQ NQ; (obtain ⟨tQ, eQ⟩ := pQ); subst eQ; (try dsimp only); (try k_fold)); k_steps)
  refine For_turns (by k_asm) ?_
  refine ld (by k_asm) rfl ?_
  refine iter_listBase rfl (by k_asm) (by k_asm) hl fun I hI => ?_
  refine itemsRest_ind (CutAt s) (fun rem m news => Kept ((Ex3 fun dn xs n => Al5 (news = [(_, listOf dn.toArray n)]) (StrsAre dn xs) (dn.length + rem.length ≤ 1000) (AllAt m [("found", _), ("cuts", .ref c), ("word", .str x tx)]) (xs ++ rem.map (exch1 x) = cs.map (exch1 x))))) ?step ?done hcs _ _ ⟨[], [], 0, rfl, .nil, by simpa using hn, ⟨rfl, rfl, rfl, trivial⟩, rfl⟩
  case step =>
    rintro v q rest m news ⟨T, t1, t2, t3, t4, rfl, hT⟩ ⟨dn, xs, n, rfl, hdn, hle, hm, hxs⟩ h tk F₁
    refine AllObj.cons fun o ho => AllObj.nil fun N₁ P1 hP1 => ?_
    have F₁ := fr_over F₁ _ hm
    dsimp only [over] at F₁
    rw [List.length_cons] at hle
    k_lt hI
    dsimp only [List.cons_append, List.nil_append] at N₁
    dsimp only at ho
    k_steps
    all_goals repeat ((unfold Kept; (with_reducible show wpAny _ _ (call (Value.ref 21) [Value.str _ _, Value.str _ _]) _ _ _); k_dflt (refine' PCall.use (concat_spec _ _ _ _ ?hx ?hy) ?k1 ?k2 ?kN ?k3 ?k4 ?k5 ?kd ?ku trivial ?_); (case hx => first | ((try simp only [Str.length_append]); omega) | decide +kernel); (case hy => first | ((try simp only [Str.length_append]); omega) | decide +kernel); (case k1 => k_asm); (case k2 => k_asm); (case kN => k_asm); (case k3 => k_asm); (case k4 => k_asm); (case k5 => first | exact rfl | assumption); (case kd => first | exact un1 (by assumption) (by decide) | exact un2 (by assumption) (by decide) | ktr_room); (case ku => first | exact un1 (by assumption) (by decide) | exact un2 (by assumption) (by decide) | ktr_units); intro vQ hQ tQ kQ pQ FQ NQ; (obtain ⟨tQ, eQ⟩ := pQ); subst eQ; (try dsimp only); (try k_fold)); k_steps)
    refine' ⟨dn ++ [_], xs ++ [exch1 x q], n + 1, ?e, ?s, ?l, ⟨rfl, rfl, rfl, trivial⟩, ?x⟩
    case e => (simp only [List.push_toArray]; rfl)
    case s => exact strsAre_append hdn (.cons _ _ .nil)
    case l => rw [List.length_append, List.length_singleton]; omega
    case x => rw [List.append_assoc]; exact hxs
  case done =>
    rintro m news ⟨dn, xs, n, rfl, hdn, hle, hm, hxs⟩ h tk F₁ N₁
    have F₁ := fr_over F₁ _ hm
    dsimp only [over] at F₁
    dsimp only
    k_steps
    all_goals repeat ((unfold Kept; (with_reducible show wpAny _ _ (call (Value.ref 21) [Value.str _ _, Value.str _ _]) _ _ _); k_dflt (refine' PCall.use (concat_spec _ _ _ _ ?hx ?hy) ?k1 ?k2 ?kN ?k3 ?k4 ?k5 ?kd ?ku trivial ?_); (case hx => first | ((try simp only [Str.length_append]); omega) | decide +kernel); (case hy => first | ((try simp only [Str.length_append]); omega) | decide +kernel); (case k1 => k_asm); (case k2 => k_asm); (case kN => k_asm); (case k3 => k_asm); (case k4 => k_asm); (case k5 => first | exact rfl | assumption); (case kd => first | exact un1 (by assumption) (by decide) | exact un2 (by assumption) (by decide) | ktr_room); (case ku => first | exact un1 (by assumption) (by decide) | exact un2 (by assumption) (by decide) | ktr_units); intro vQ hQ tQ kQ pQ FQ NQ; (obtain ⟨tQ, eQ⟩ := pQ); subst eQ; (try dsimp only); (try k_fold)); k_steps)
    refine hret _ _ _ (by assumption) ⟨_, dn, n, rfl, News.newAt N₁ (List.mem_singleton.mpr rfl), ?_⟩
    rw [List.map_nil, List.append_nil] at hxs
    exact hxs ▸ hdn
end
section
section
example : True := by
  k_with_none
  k_with "LeaveF" => (refine leaveF_ (by k_asm) ?_; intro kk; (try dsimp only))
  k_with "Shut" => (refine shut (by assumption) ?_; (try dsimp only))
  k_with "execs cons" => (refine shutX ?_; intro tX PX hPX)
  k_with "exec For Name Call cons nil" => (k_here; refine held ?_)
  k_with "exec For Tuple Call cons nil" => (k_here; refine held ?_)
  k_with "exec For Name Name cons nil" => (k_here; refine held ?_)
  k_with "exec For Tuple Name cons nil" => (k_here; refine held ?_)
  trivial
variable {prog : Program} {w : World} {A : Around} {E : Value → Shared → Prop} {s : Shared} {env : Env} {h₀ : Heap} {target : Expr} {body : List Stmt} {Q : Flow → Shared → Prop} {K : Type} [DecidableEq K] {knd : KeyKind prog w K} {enc : K → PyData} {kvs : List (K × Value)}
theorem iter_itemsB {elts : List Expr} {kk : Nat} {pos : Pos} {d vw : Addr} {m₀ : Str → Option Value} {news : List (Addr × Obj)}
    (hh : A.handled = none) (F : Fr h₀ env.locals s.heap m₀) (N : News h₀ env.locals s.heap news) (hvw : ∃ ov, s.heap.get? vw = some ov ∧ ov.cls = .type "dict_items" ∧ ov.data = .fields #[.ref d]) (hg : h₀.DictOf knd d kvs)
    (hkey : ∀ k v, knd.is k v = true → ∃ t, v = kyVal (enc k) t)
    (rest₀ : ∀ I : Addr, (∀ p ∈ news, p.1 < I) → ItemsRest prog w A E h₀ env (.Tuple elts kk pos) body Q s [(I, "dict_itemiterator")] [] (kvs.map (fun p => Itm.pair (kyVal (enc p.1)) p.2)) m₀ news) :
    wpAny (model prog w) A (pyIter (.ref vw)) (fun it s₂ => TurnsAt prog w A h₀ env (.Tuple elts kk pos) body Q E it s₂) E s := by
  obtain ⟨od, _, _, hod, _⟩ := id hg
  obtain ⟨ep, hat⟩ := (hg.keep F.keep).dictAt
  have hne : d ≠ s.heap.objs.size := Nat.ne_of_lt hat.lt_size
  refine wpAny_pyIter_items hvw hat ?_
  refine ktg_core (tk0 := s.toks) (keep := []) (kti_itemsTurns (knd := knd) hh s.heap.objs.size d hne kvs ep) (by rw [List.length_map]) ?_ ?_ ?_ ?_ ?_ ?_ ?_ ?_ (F.push _) (fun p hp => ⟨Heap.get?_push_of_some _ (N p hp).1, (N p hp).2⟩) trivial (rest₀ _ fun p hp => Heap.lt_size (N p hp).1)
  · rintro i v h ⟨T', key, k, x, rfl, hx, hk, hT⟩
    obtain ⟨t, rfl⟩ := hkey k key hk
    exact ⟨.pair (kyVal (enc k)) x, by rw [List.getElem?_map, hx]; rfl, T', t, rfl, hT⟩
  · rintro i h ⟨⟨ok, ov, he⟩, _⟩
    have e1 : ∃ o : Obj, h.get? s.heap.objs.size = some o ∧ o.cls = .type "dict_itemiterator" := ⟨_, he, rfl⟩
    obtain ⟨oi, g, c⟩ := e1
    exact ⟨[(s.heap.objs.size, oi)], ⟨⟨rfl, c⟩, trivial⟩, fun p hp => by rw [List.mem_singleton.mp hp]; exact g⟩
  · intro b hb
    have hb' : b = s.heap.objs.size := by simpa using hb
    rw [hb']
    exact ⟨List.mem_cons_self .., next_is_new F⟩
  · intro b hb
    simpa using hb
  · intro b hb
    have hb' : b = s.heap.objs.size ∨ b = d := by simpa using hb
    rcases hb' with e | e
    · exact .inl (by simp [e])
    · exact .inr (.inr ⟨od, by rw [e]; exact hod⟩)
  · intro hI
    have hb' : env.locals = s.heap.objs.size ∨ env.locals = d := by simpa using hI
    rcases hb' with e | e
    · exact absurd F.ns.lt (e ▸ Nat.lt_irrefl _)
    · exact absurd (Heap.lt_size hod) (Nat.not_lt.mpr (e ▸ F.above))
  · intro p hp hI
    exact absurd (Heap.lt_size (N p hp).1) ((List.mem_singleton.mp hI) ▸ Nat.lt_irrefl _)
  · exact ⟨⟨.none, .none, Heap.get?_push_size _ rfl⟩, hat.push _⟩
theorem iter_valsB {d vw : Addr} {m₀ : Str → Option Value} {news : List (Addr × Obj)}
    (hh : A.handled = none) (F : Fr h₀ env.locals s.heap m₀) (N : News h₀ env.locals s.heap news) (hv : s.heap.IsValuesView vw d) (hg : h₀.DictOf knd d kvs)
    (rest₀ : ∀ I : Addr, (∀ p ∈ news, p.1 < I) → ItemsRest prog w A E h₀ env target body Q s [(I, "dict_valueiterator")] [] ((kvs.map (·.2)).map Itm.val) m₀ news) :
    wpAny (model prog w) A (pyIter (.ref vw)) (fun it s₂ => TurnsAt prog w A h₀ env target body Q E it s₂) E s := by
  obtain ⟨od, _, _, hod, _⟩ := id hg
  obtain ⟨ep, hat⟩ := (hg.keep F.keep).dictAt
  have hne : d ≠ s.heap.objs.size := Nat.ne_of_lt hat.lt_size
  refine wpAny_pyIter_values hv hat ?_
  refine ktg_core (tk0 := s.toks) (keep := []) (KTurns.ofWalks (Walks.dictValues (knd := knd) hh s.heap.objs.size d hne kvs ep) fun i v s Q E st q => letGo_valiter st.1 q) (by rw [List.length_map, List.length_map]) ?_ ?_ ?_ ?_ ?_ ?_ ?_ ?_ (F.push _) (fun p hp => ⟨Heap.get?_push_of_some _ (N p hp).1, (N p hp).2⟩) trivial (rest₀ _ fun p hp => Heap.lt_size (N p hp).1)
  · rintro i v h ⟨k, hx⟩
    exact ⟨.val v, by rw [List.getElem?_map, List.getElem?_map, hx]; rfl, rfl⟩
  · rintro i h ⟨⟨oi, g, c, _⟩, _⟩
    exact ⟨[(s.heap.objs.size, oi)], ⟨⟨rfl, c⟩, trivial⟩, fun p hp => by rw [List.mem_singleton.mp hp]; exact g⟩
  · intro b hb
    have hb' : b = s.heap.objs.size := by simpa using hb
    rw [hb']
    exact ⟨List.mem_cons_self .., next_is_new F⟩
  · intro b hb
    simpa using hb
  · intro b hb
    have hb' : b = s.heap.objs.size ∨ b = d := by simpa using hb
    rcases hb' with e | e
    · exact .inl (by simp [e])
    · exact .inr (.inr ⟨od, by rw [e]; exact hod⟩)
  · intro hI
    have hb' : env.locals = s.heap.objs.size ∨ env.locals = d := by simpa using hI
    rcases hb' with e | e
    · exact absurd F.ns.lt (e ▸ Nat.lt_irrefl _)
    · exact absurd (Heap.lt_size hod) (Nat.not_lt.mpr (e ▸ F.above))
  · intro p hp hI
    exact absurd (Heap.lt_size (N p hp).1) ((List.mem_singleton.mp hI) ▸ Nat.lt_irrefl _)
  · exact ⟨⟨_, Heap.get?_push_size _ rfl, rfl, rfl⟩, hat.push _⟩
variable {L d : Addr} {m : Str → Option Value} {news : List (Addr × Obj)} {R : Value → Shared → Prop}
theorem call_valuesB (F : Fr h₀ L s.heap m) (N : News h₀ L s.heap news) (hD : s.heap.DictOf knd d kvs) (lo : (d == sysModules) = false)
    (h : ∀ vw h', h'.IsValuesView vw d → Fr h₀ L h' m → News h₀ L h' news → R (.ref vw) { s with heap := h' }) : wpAny (model prog w) A (call (.builtin "dict.values") [.ref d]) R E s :=
  call_meetsIn PySem.F.slot_dict_values hD.typeIs PySem.F.entry_dict_values (PySem.F.args_dict_values_1 _) (meets_dict_values knd d lo) ⟨⟨kvs, hD⟩, h s.heap.objs.size _ ⟨_, Heap.get?_push_size _ rfl, rfl, rfl⟩ (F.push _) fun p hp => ⟨Heap.get?_push_of_some _ (N p hp).1, (N p hp).2⟩⟩
theorem call_itemsB (F : Fr h₀ L s.heap m) (N : News h₀ L s.heap news) (hD : s.heap.DictOf knd d kvs) (lo : (d == sysModules) = false)
    (h : ∀ vw h', (∃ ov, h'.get? vw = some ov ∧ ov.cls = .type "dict_items" ∧ ov.data = .fields #[.ref d]) → Fr h₀ L h' m → News h₀ L h' news → R (.ref vw) { s with heap := h' }) : wpAny (model prog w) A (call (.builtin "dict.items") [.ref d]) R E s :=
  call_meetsIn PySem.F.slot_dict_items hD.typeIs PySem.F.entry_dict_items (PySem.F.args_dict_items_1 _) (meets_dict_items knd d lo) ⟨⟨kvs, hD⟩, h s.heap.objs.size _ ⟨_, Heap.get?_push_size _ rfl, rfl, rfl⟩ (F.push _) fun p hp => ⟨Heap.get?_push_of_some _ (N p hp).1, (N p hp).2⟩⟩
end

noncomputable abbrev DictAt (w : World) (h : Heap) (d : Addr) (c : List (Str × Int)) : Prop := StrTab PR w h d (kdpD c)
noncomputable def IntAt (v : Value) (n : Int) : Prop := ∃ t, v = .int n t
theorem vals_paired : ∀ {kvs : List (Str × Value)} {c : List (Str × Int)}, PyProof.V.FlatPairs PyData.str kvs (kdpD c) → Paired IntAt (kvs.map (·.2)) (c.map (·.2))
  | [], [], _ => .nil
  | [], _ :: _, h => by cases h
  | _ :: _, [], h => by cases h
  | (k, v) :: kvs, (k', n) :: c, h => by
    cases h with
    | cons hv hr =>
      obtain ⟨t, rfl⟩ := PyProof.V.Flat.int_inv hv
      exact .cons ⟨t, rfl⟩ (vals_paired hr)
noncomputable def PairAt (x : Str × Value) (q : Str × Int) : Prop := x.1 = q.1 ∧ ∃ t, x.2 = .int q.2 t
theorem items_paired : ∀ {kvs : List (Str × Value)} {c : List (Str × Int)}, PyProof.V.FlatPairs PyData.str kvs (kdpD c) → Paired PairAt kvs c
  | [], [], _ => .nil
  | [], _ :: _, h => by cases h
  | _ :: _, [], h => by cases h
  | (k, v) :: kvs, (k', n) :: c, h => by
    cases h with
    | cons hv hr =>
      obtain ⟨t, rfl⟩ := PyProof.V.Flat.int_inv hv
      exact .cons ⟨rfl, t, rfl⟩ (items_paired hr)
section
variable {prog : Program} {w : World} {A : Around} {E : Value → Shared → Prop} {s : Shared} {env : Env} {h₀ : Heap} {target : Expr} {body : List Stmt} {Q : Flow → Shared → Prop}
theorem itemsRest_indP {β : Type} {ws : List (Addr × String)} {keep : List (Addr × Obj)} (R : Str × Value → β → Prop) (J : List β → (Str → Option Value) → List (Addr × Obj) → Prop)
    (step : ∀ v q rest m news, R v q → J (q :: rest) m news → ∀ T t h tk, IsTup h T #[kyVal (PyData.str v.1) t, v.2] → Fr h₀ env.locals h m → AllObj ws (fun its => News h₀ env.locals h (its ++ news) →
      ∀ P : Flow → Shared → Prop, (∀ f s₂, UnrPostW h₀ env.locals { s with heap := h, toks := tk } its (fun m' n' => SubL keep n' ∧ J rest m' n') Q f s₂ → Shut P f s₂) →
      wpAny (model prog w) A (assign target env (.ref T)) (fun _ s₂ => wpAny (model prog w) A (execs body env) (Shut P) E s₂) E { s with heap := h, toks := tk }))
    (done : ∀ m news, J [] m news → ∀ h tk, Fr h₀ env.locals h m → News h₀ env.locals h news → Q .next { s with heap := h, toks := tk }) :
    ∀ {vs : List (Str × Value)} {qs : List β}, Paired R vs qs → ∀ m news, J qs m news → ItemsRest prog w A E h₀ env target body Q s ws keep (vs.map fun p => Itm.pair (kyVal (PyData.str p.1)) p.2) m news := by
  intro vs qs hp
  induction hp with
  | nil => exact fun m news hj => ItemsRest.zero (done m news hj)
  | @cons v q vs qs hv _ ih =>
    intro m news hj
    refine ItemsRest.pair fun T t h tk hT F => ?_
    have z := step v q qs m news hv hj T t h tk hT F
    refine allObj_mono (fun its y N => ?_) z
    refine wpAny_mono (y N _ fun _ _ x => x) (fun _ s₂ h₂ => wpAny_mono h₂ (fun f s₃ h₃ => ?_) fun _ _ e => e) fun _ _ e => e
    have up : UnrEndW h₀ env.locals { s with heap := h, toks := tk } its (fun m' n' => SubL keep n' ∧ J qs m' n') s₃ →
        UnrEndW h₀ env.locals { s with heap := h, toks := tk } its (fun m' n' => SubL keep n' ∧ ItemsRest prog w A E h₀ env target body Q s ws keep (vs.map fun p => Itm.pair (kyVal (PyData.str p.1)) p.2) m' n') s₃ := by
      rintro ⟨h', tk', m', news', e, F', N', ho, hk, hj'⟩
      exact ⟨h', tk', m', news', e, F', N', ho, hk, ih m' news' hj'⟩
    cases f with
    | ret v => exact h₃
    | brk => exact h₃
    | next => exact up h₃
    | cont => exact up h₃
end
theorem str_key {prog : Program} {w : World} (k : Str) (v : Value) (h : (strKind prog w).is k v = true) : ∃ t, v = kyVal (PyData.str k) t := by
  cases v <;> first | (exact ⟨_, by have := of_decide_eq_true h; subst this; rfl⟩) | cases h
noncomputable def putAll (a : List (Str × Int)) (l : List (Str × Int)) : List (Str × Int) := l.foldl (fun a p => kdpPut a p.1 p.2) a
noncomputable def addOne (a : List (Str × Int)) (p : Str × Int) : List (Str × Int) := if kdpHas a p.1 then kdpPut a p.1 (kdpLook a p.1 0 + p.2) else kdpPut a p.1 p.2
noncomputable def addAll (a : List (Str × Int)) (l : List (Str × Int)) : List (Str × Int) := l.foldl addOne a
end
section
noncomputable def sumD (c : List (Str × Int)) : Int := (c.map (·.2)).sum
set_option maxHeartbeats 8000000 in
theorem count_spec {w : World} (d : Addr) (c : List (Str × Int)) :
   PCall w 90 [.ref d] 8 40 (fun h => DictAt w h d c) (fun _ _ v => ∃ t, v = .int (sumD c) t) := by
  unfold PCall
  intro p loose mean mg mb dp un gd cn cs' a ccd cl outer A₀ base h₀ L m s gS dS tS oS Q E B F X T hk hd hu hpre hret
  obtain ⟨lo, kvs, hD, hf⟩ := id hpre
  refine wpAny_call ?_
  (refine' code_F ?k1 ?k2 ?k3 ?k5 ?kA ?kF ?kK ?k6 ?k7 ?k8 ?k9 ?kB ?_ ?c2 ?c3 ?c4 ?c5; (case kA => exact rfl); (case kF => exact rfl); (case kK => assumption); (case k1 => k_asm); (case k2 => k_asm); (case k3 => k_asm); (case k5 => k_asm); (case k6 => k_is); (case k7 => k_is); (case k8 => first | exact Nat.lt_of_le_of_lt (Nat.le_add_right _ _) (by assumption) | exact un0 (by assumption) (by decide) | exact un1 (by assumption) (by decide) | ktr_room); (case k9 => exact BindsTo.of_eq rfl); (case c5 => decide); (case kB => exact locs rfl); (case c2 => exact rfl); (case c3 => exact rfl); (case c4 => exact rfl); k_whole; intro L' h' F' N' B' X' T'; (try dsimp only); refine shutE ?_; intro P' E' hE' hP'; (try k_fold))
  k_steps
  all_goals repeat ((unfold Kept; (with_reducible show wpAny _ _ (exec (Stmt.For _ _ _ _ _) _) _ _ _); k_dflt (refine' For_turns ?kF ?_; (case kF => k_asm); k_whole)); k_steps)
  refine call_valuesB (by k_asm) (by k_asm) (hD.keep (Fr.keep (by k_asm))) lo fun vw h1 hv F1 N1 => ?_
  dsimp only
  refine iter_valsB rfl F1 N1 hv hD fun I hI => ?_
  refine itemsRest_ind IntAt (fun rem m news => Kept (news = [] ∧ ∃ t, AllAt m [("nc", .int (sumD c - rem.sum) t), ("callers", .ref d)])) ?step ?done (vals_paired hf) _ _ ⟨rfl, _, by show some (Value.int _ _) = some (Value.int _ _); rw [show sumD c - (c.map (·.2)).sum = 0 from Int.sub_self _], rfl, trivial⟩
  case step =>
    rintro v q rest m news ⟨tv, rfl⟩ ⟨rfl, t, hm⟩ h tk F₁
    refine AllObj.cons fun o ho => AllObj.nil fun N₁ P1 hP1 => ?_
    have F₁ := fr_over F₁ _ hm
    dsimp only [over] at F₁
    dsimp only at ho
    k_steps
    all_goals repeat ((unfold Kept; (with_reducible show wpAny _ _ (exec (Stmt.For _ _ _ _ _) _) _ _ _); k_dflt (refine' For_turns ?kF ?_; (case kF => k_asm); k_whole)); k_steps)
    have e : sumD c - (q :: rest).sum + q = sumD c - rest.sum := by rw [List.sum_cons]; omega
    rw [← e]
    exact ⟨rfl, _, rfl, rfl, trivial⟩
  case done =>
    rintro m news ⟨rfl, t, hm⟩ h tk F₁ N₁
    have F₁ := fr_over F₁ _ hm
    dsimp only [over] at F₁
    dsimp only
    k_steps
    all_goals repeat ((unfold Kept; (with_reducible show wpAny _ _ (exec (Stmt.For _ _ _ _ _) _) _ _ _); k_dflt (refine' For_turns ?kF ?_; (case kF => k_asm); k_whole)); k_steps)
    refine hret _ _ _ (by assumption) ⟨t, ?_⟩
    rw [List.sum_nil, Int.sub_zero]
end
section
example : True := by
  k_with_none
  k_with "LeaveF" => (refine leaveF_ (by k_asm) ?_; intro kk; (try dsimp only))
  k_with "Shut" => (refine shut (by assumption) ?_; (try dsimp only))
  k_with "execs cons" => (refine shutX ?_; intro tX PX hPX)
  k_with "exec For Name Call cons nil" => (k_here; refine held ?_)
  k_with "exec For Tuple Call cons nil" => (k_here; refine held ?_)
  k_with "exec For Name Name cons nil" => (k_here; refine held ?_)
  k_with "exec For Tuple Name cons nil" => (k_here; refine held ?_)
  k_with "setItem ref str" => (k_here; refine held ?_)
  trivial
set_option maxHeartbeats 32000000 in
theorem addc_spec {w : World} (d e : Addr) (c c' : List (Str × Int)) (hn : c.length + c'.length ≤ 1000) :
   PCall w 83 [.ref d, .ref e] 8 40 (fun h => DictAt w h d c ∧ DictAt w h e c') (fun h0 h v => (Ex3 fun f o akv => Al5 (v = .ref f) (NewAt h0 h f o) (o.IsDictOf (strKind PR w) akv) (PyProof.V.FlatPairs PyData.str akv (kdpD (addAll (putAll [] c) c'))) ((f == sysModules) = false))) := by
  unfold PCall
  intro p loose mean mg mb dp un gd cn cs' a ccd cl outer A₀ base h₀ L m s gS dS tS oS Q E B F X T hk hd hu hpre hret
  have hTd := hpre.1
  have hTe := hpre.2
  obtain ⟨⟨lo, kvs, hD, hf⟩, lo', kvs', hD', hf'⟩ := hpre
  refine wpAny_call ?_
  (refine' code_F ?k1 ?k2 ?k3 ?k5 ?kA ?kF ?kK ?k6 ?k7 ?k8 ?k9 ?kB ?_ ?c2 ?c3 ?c4 ?c5; (case kA => exact rfl); (case kF => exact rfl); (case kK => assumption); (case k1 => k_asm); (case k2 => k_asm); (case k3 => k_asm); (case k5 => k_asm); (case k6 => k_is); (case k7 => k_is); (case k8 => first | exact Nat.lt_of_le_of_lt (Nat.le_add_right _ _) (by assumption) | exact un0 (by assumption) (by decide) | exact un1 (by assumption) (by decide) | ktr_room); (case k9 => exact BindsTo.of_eq rfl); (case c5 => decide); (case kB => exact locs rfl); (case c2 => exact rfl); (case c3 => exact rfl); (case c4 => exact rfl); k_whole; intro L' h' F' N' B' X' T'; (try dsimp only); refine shutE ?_; intro P' E' hE' hP'; (try k_fold))
  k_steps
  all_goals repeat ((first | (unfold Kept; (with_reducible show wpAny _ _ (setItem (Value.ref _) (Value.str _ _) (Value.int _ _)) _ _ _); k_dflt (refine' kdp_setItem ?F ?N ?U ?d ?f ?z ?_; (case F => k_asm); (case N => k_asm); (case U => k_updF); (case d => k_asm); (case f => k_asm); (case z => omega)); intro hQ oQ kvQ FQ NQ hdQ hfQ; (try dsimp only at NQ)) | (unfold Kept; (with_reducible show wpAny _ _ (exec (Stmt.For _ _ _ _ _) _) _ _ _); k_dflt (refine' For_turns ?kF ?_; (case kF => k_asm); k_whole))); k_steps)
  refine call_itemsB (by k_asm) (by k_asm) (hD.keep (Fr.keep (by k_asm))) lo fun vw h1 hv F1 N1 => ?_
  dsimp only
  refine iter_itemsB rfl F1 N1 hv hD str_key fun I hI => ?_
  refine itemsRest_indP PairAt (fun rem m news => Kept ((Ex4 fun d' o' acc akv => Al5 ((d' == sysModules) = false) (news = [(d', o')]) (o'.IsDictOf (strKind PR w) akv) (PyProof.V.FlatPairs PyData.str akv (kdpD acc)) (Al4 (putAll acc rem = putAll [] c) (acc.length + rem.length + c'.length ≤ 1000) (d' < I) (AllAt m [("new_callers", .ref d'), ("target", .ref d), ("source", .ref e)]))))) ?step ?done (items_paired hf) _ _ ⟨_, _, [], [], by assumption, rfl, by assumption, by assumption, rfl, by simpa using hn, hI _ (List.mem_singleton.mpr rfl), rfl, rfl, rfl, trivial⟩
  case step =>
    rintro ⟨k, v⟩ ⟨k', n⟩ rest m news ⟨hk', tv, hv'⟩ ⟨d', o', acc, akv, lo2, rfl, ho', hacc, hput, hle, hdI, hm⟩ T t h tk hT F₁
    dsimp only [kyVal] at hk' hv' hT
    subst hk' hv'
    refine AllObj.cons fun o ho => AllObj.nil fun N₁ P1 hP1 => ?_
    have F₁ := fr_over F₁ _ hm
    dsimp only [over] at F₁
    dsimp only at ho
    k_lt2 hdI
    rw [List.length_cons] at hle
    dsimp only [List.cons_append, List.nil_append] at N₁
    k_steps
    all_goals repeat ((first | (unfold Kept; (with_reducible show wpAny _ _ (setItem (Value.ref _) (Value.str _ _) (Value.int _ _)) _ _ _); k_dflt (refine' kdp_setItem ?F ?N ?U ?d ?f ?z ?_; (case F => k_asm); (case N => k_asm); (case U => k_updF); (case d => k_asm); (case f => k_asm); (case z => omega)); intro hQ oQ kvQ FQ NQ hdQ hfQ; (try dsimp only at NQ)) | (unfold Kept; (with_reducible show wpAny _ _ (exec (Stmt.For _ _ _ _ _) _) _ _ _); k_dflt (refine' For_turns ?kF ?_; (case kF => k_asm); k_whole))); k_steps)
    refine ⟨d', _, kdpPut acc k n, _, lo2, rfl, by assumption, by assumption, hput, ?_, hdI, rfl, rfl, rfl, trivial⟩
    have := kdpPut_len acc k n
    omega
  case done =>
    rintro m news ⟨d', o', acc, akv, lo2, rfl, ho', hacc, hput, hle, hdI, hm⟩ h tk F₁ N₁
    have F₁ := fr_over F₁ _ hm
    dsimp only [over] at F₁
    dsimp only
    have hput : acc = putAll [] c := hput
    rw [← hput] at hret
    rw [List.length_nil] at hle
    clear hv F1 N1 hI hdI hput
    k_steps
    all_goals repeat ((first | (unfold Kept; (with_reducible show wpAny _ _ (setItem (Value.ref _) (Value.str _ _) (Value.int _ _)) _ _ _); k_dflt (refine' kdp_setItem ?F ?N ?U ?d ?f ?z ?_; (case F => k_asm); (case N => k_asm); (case U => k_updF); (case d => k_asm); (case f => k_asm); (case z => omega)); intro hQ oQ kvQ FQ NQ hdQ hfQ; (try dsimp only at NQ)) | (unfold Kept; (with_reducible show wpAny _ _ (exec (Stmt.For _ _ _ _ _) _) _ _ _); k_dflt (refine' For_turns ?kF ?_; (case kF => k_asm); k_whole))); k_steps)
    refine call_itemsB (by k_asm) (by k_asm) (hD'.keep (Fr.keep (by k_asm))) lo' fun vw h1 hv F1 N1 => ?_
    dsimp only
    refine iter_itemsB rfl F1 N1 hv hD' str_key fun I hI => ?_
    refine itemsRest_indP PairAt (fun rem m news => Kept ((Ex3 fun o' acc2 akv => Al5 (news = [(d', o')]) (o'.IsDictOf (strKind PR w) akv) (PyProof.V.FlatPairs PyData.str akv (kdpD acc2)) (addAll acc2 rem = addAll acc c') ((acc2.length + rem.length ≤ 1000) ∧ (AllAt m [("new_callers", .ref d'), ("target", .ref d), ("source", .ref e)]))))) ?step ?done (items_paired hf') _ _ ⟨_, _, _, rfl, ho', hacc, rfl, by omega, rfl, rfl, rfl, trivial⟩
    have hdI : d' < I := hI _ (List.mem_singleton.mpr rfl)
    case step =>
      rintro ⟨k, v⟩ ⟨k', n⟩ rest m news ⟨hk', tv, hv'⟩ ⟨o2, acc2, akv2, rfl, ho2, hacc2, hput2, hle2, hm2⟩ T t h tk hT F₁
      dsimp only [kyVal] at hk' hv' hT
      subst hk' hv'
      refine AllObj.cons fun o ho => AllObj.nil fun N₁ P1 hP1 => ?_
      have F₁ := fr_over F₁ _ hm2
      dsimp only [over] at F₁
      dsimp only at ho
      rw [List.length_cons] at hle2
      dsimp only [List.cons_append, List.nil_append] at N₁
      k_lt2 hdI
      k_steps
      all_goals repeat ((first | (unfold Kept; (with_reducible show wpAny _ _ (setItem (Value.ref _) (Value.str _ _) (Value.int _ _)) _ _ _); k_dflt (refine' kdp_setItem ?F ?N ?U ?d ?f ?z ?_; (case F => k_asm); (case N => k_asm); (case U => k_updF); (case d => k_asm); (case f => k_asm); (case z => omega)); intro hQ oQ kvQ FQ NQ hdQ hfQ; (try dsimp only at NQ)) | (unfold Kept; (with_reducible show wpAny _ _ (exec (Stmt.For _ _ _ _ _) _) _ _ _); k_dflt (refine' For_turns ?kF ?_; (case kF => k_asm); k_whole))); k_steps)
      · refine ⟨_, kdpPut acc2 k (kdpLook acc2 k 0 + n), _, rfl, by assumption, by assumption, ?_, ?_, rfl, rfl, rfl, trivial⟩
        · rw [← hput2]; show addAll _ rest = addAll (addOne acc2 (k, n)) rest
          unfold addOne; rw [if_pos (by assumption)]
        · have := kdpPut_len acc2 k (kdpLook acc2 k 0 + n)
          omega
      · refine ⟨_, kdpPut acc2 k n, _, rfl, by assumption, by assumption, ?_, ?_, rfl, rfl, rfl, trivial⟩
        · rw [← hput2]; show addAll _ rest = addAll (addOne acc2 (k, n)) rest
          unfold addOne; rw [if_neg (by simp_all)]
        · have := kdpPut_len acc2 k n
          omega
    case done =>
      rintro m news ⟨o2, acc2, akv2, rfl, ho2, hacc2, hput2, hle2, hm2⟩ h tk F₁ N₁
      have F₁ := fr_over F₁ _ hm2
      dsimp only [over] at F₁
      dsimp only
      k_steps
      all_goals repeat ((first | (unfold Kept; (with_reducible show wpAny _ _ (setItem (Value.ref _) (Value.str _ _) (Value.int _ _)) _ _ _); k_dflt (refine' kdp_setItem ?F ?N ?U ?d ?f ?z ?_; (case F => k_asm); (case N => k_asm); (case U => k_updF); (case d => k_asm); (case f => k_asm); (case z => omega)); intro hQ oQ kvQ FQ NQ hdQ hfQ; (try dsimp only at NQ)) | (unfold Kept; (with_reducible show wpAny _ _ (exec (Stmt.For _ _ _ _ _) _) _ _ _); k_dflt (refine' For_turns ?kF ?_; (case kF => k_asm); k_whole))); k_steps)
      have hput2 : acc2 = addAll acc c' := hput2
      refine hret _ _ _ (by assumption) ⟨_, _, _, rfl, News.newAt N₁ (List.mem_singleton.mpr rfl), ho2, hput2 ▸ hacc2, lo2⟩
end
section
section
example : True := by
  k_with_none
  k_with "LeaveF" => (refine leaveF_ (by k_asm) ?_; intro kk; (try dsimp only))
  k_with "Shut" => (refine shut (by assumption) ?_; (try dsimp only))
  k_with "execs cons" => (refine shutX ?_; intro tX PX hPX)
  k_with "exec For Name Call cons nil" => (k_here; refine held ?_)
  k_with "exec For Tuple Call cons nil" => (k_here; refine held ?_)
  k_with "exec For Name Name cons nil" => (k_here; refine held ?_)
  k_with "exec For Tuple Name cons nil" => (k_here; refine held ?_)
  trivial
variable {prog : Program} {w : World} {A : Around} {E : Value → Shared → Prop} {R : Result → Shared → Prop} {s : Shared}
theorem dc_loop {kx vx target iter : Expr} {scope : Scope} {pos : Pos} {it : Value} {D : Addr} {env : Env} (I : Nat → Shared → Prop)
    (turn : ∀ n s, I n s → wpAny (model prog w) A (pyNext it) (fun r s₁ => match r with
      | none => R (.ok .next) s₁
      | some v => wpAny (model prog w) A (letOwnedTupleGo target it v) (fun _ s₀ => wpAny (model prog w) A (assign target env v) (fun _ s₂ =>
          wpAny (model prog w) A (eval kx env) (fun kv s₄ => wpAny (model prog w) A (eval vx env) (fun vv s₅ =>
              wpAny (model prog w) A (dictSet D kv vv) (fun _ s₆ => ∃ m, m < n ∧ I m s₆) (notedBy (model prog w) A env fun e s' => R (.error e) s') s₅) (notedBy (model prog w) A env fun e s' => R (.error e) s') s₄) (notedBy (model prog w) A env fun e s' => R (.error e) s') s₂)
            (notedBy (model prog w) A env fun e s' => R (.error e) s') s₀) (notedBy (model prog w) A env fun e s' => R (.error e) s') s₁) (notedBy (model prog w) A env fun e s' => R (.error e) s') s)
    (n : Nat) (h : I n s) : codeAny (model prog w) A (.compLoop (.DictComp kx vx [⟨target, iter, [], 0⟩] scope pos) 0 it (.ref D) env) R s := by
  refine codeAny_loop rfl I (fun n s hI => ?_) n h
  show wpAny _ A ((compTurn (.DictComp kx vx [⟨target, iter, [], 0⟩] scope pos) 0 it (.ref D) env).onRaise (fun x => do noteFrame x env; theTreesLotGoes x)) _ _ s
  refine wpAny_noted ?_
  rw [compTurn_dict]
  refine wpAny_bind (wpAny_standAt (wpAny_bind (wpAny_mono (turn n s hI) (fun r s₁ h₁ => ?_) fun _ _ h' => h')))
  cases r with
  | none => exact wpAny_pure h₁
  | some v =>
    refine wpAny_bind (wpAny_mono h₁ (fun _ s₀ h₀ => ?_) fun _ _ h' => h')
    refine wpAny_bind (wpAny_mono h₀ (fun _ s₂ h₂ => ?_) fun _ _ h' => h')
    refine wpAny_bind (wpAny_tests_nil ?_)
    exact wpAny_bind (wpAny_bind (wpAny_mono h₂ (fun kv s₄ h₄ => wpAny_bind (wpAny_holding (wpAny_mono h₄ (fun vv s₅ h₅ => wpAny_bind (wpAny_standAt (wpAny_holding (wpAny_mono h₅ (fun _ s₆ h₆ => wpAny_pure ⟨rfl, h₆⟩) fun _ _ h' => h')))) fun _ _ h' => h'))) fun _ _ h' => h'))
end

inductive StoredN {K : Type} [DecidableEq K] (FKV : Nat → K → Value → Prop) : Nat → List (K × Value) → Prop
  | nil : StoredN FKV 0 []
  | snoc {i kvs k y} : StoredN FKV i kvs → FKV i k y → StoredN FKV (i + 1) (stored kvs k y)
theorem StoredN.length_le {K : Type} [DecidableEq K] {FKV : Nat → K → Value → Prop} {n : Nat} {kvs : List (K × Value)} (h : StoredN FKV n kvs) : kvs.length ≤ n := by
  induction h with
  | nil => exact Nat.le_refl _
  | @snoc i kvs k y _ _ ih =>
    have e := stored_length_le kvs k y
    omega

section
variable {prog : Program} {w : World} {K : Type} [DecidableEq K] {knd : KeyKind prog w K} {A : Around} {E : Value → Shared → Prop} {R : Result → Shared → Prop} {s : Shared} {env : Env}
noncomputable def DcEnd (knd : KeyKind prog w K) (FKV : Nat → K → Value → Prop) (i : Nat) (C : Addr) (s₁ : Shared) (key y : Value) (s₅ : Shared) : Prop :=
  (∃ k, knd.is k key = true ∧ FKV i k y) ∧ (Ex3 fun h' tk' m' => Al3 (s₅ = { s₁ with heap := h', toks := tk' }) (h'.Ns C m') (∀ b o, b ≠ C → s₁.heap.get? b = some o → h'.get? b = some o))

theorem dc_walk {kx vx target iter : Expr} {scope : Scope} {pos : Pos} {I D : Addr} {fp wr : List Addr} {n : Nat} {P Md : Nat → Value → Heap → Prop} {St : Nat → Heap → Prop}
    {cenv : Env} {m : Str → Option Value} (W : KTurns prog w A target I fp wr n P Md St) (FKV : Nat → K → Value → Prop)
    (hDC : D ≠ cenv.locals) (hDf : D ∉ fp) (hCf : cenv.locals ∉ fp)
    (hst : St 0 s.heap) (hacc : s.heap.DictOf knd D []) (hn : s.heap.Ns cenv.locals m)
    (turn : ∀ i v h₁ tk₁ m₁, i < n → P i v h₁ → h₁.Ns cenv.locals m₁ → (∀ b o, b ≠ cenv.locals → b ∉ wr → b ≠ D → s.heap.get? b = some o → h₁.get? b = some o) →
      wpAny (model prog w) A (assign target cenv v) (fun _ s₃ => wpAny (model prog w) A (eval kx cenv) (fun key s₄ => wpAny (model prog w) A (eval vx cenv) (fun y s₅ => DcEnd knd FKV i cenv.locals { s with heap := h₁, toks := tk₁ } key y s₅)
        (notedBy (model prog w) A cenv fun e s' => R (.error e) s') s₄) (notedBy (model prog w) A cenv fun e s' => R (.error e) s') s₃) (notedBy (model prog w) A cenv fun e s' => R (.error e) s') { s with heap := h₁, toks := tk₁ })
    (hR : ∀ h' tk m' kvs, h'.Ns cenv.locals m' → h'.DictOf knd D kvs → StoredN FKV n kvs → (∀ b o, b ≠ cenv.locals → b ∉ wr → b ≠ D → s.heap.get? b = some o → h'.get? b = some o) → R (.ok .next) { s with heap := h', toks := tk })
    (hsz : n ≤ sizeLine) :
    codeAny (model prog w) A (.compLoop (.DictComp kx vx [⟨target, iter, [], 0⟩] scope pos) 0 (.ref I) (.ref D) cenv) R s := by
  refine dc_loop
    (fun k s' => (Ex5 fun h' tk m' kvs i => Al5 (s' = { s with heap := h', toks := tk }) (St i h') (h'.DictOf knd D kvs) (h'.Ns cenv.locals m') (Al4 (StoredN FKV i kvs) (i ≤ n) (k = n + 1 - i) (∀ b o, b ≠ cenv.locals → b ∉ wr → b ≠ D → s.heap.get? b = some o → h'.get? b = some o)))) ?_ (n + 1)
    ⟨s.heap, s.toks, m, [], 0, rfl, hst, hacc, hn, .nil, Nat.zero_le _, rfl, fun _ _ _ _ _ e => e⟩
  rintro k s' ⟨H, tk, m', kvs, i, rfl, hst', hacc', hn', hF, hi, rfl, hk⟩
  have hCw : cenv.locals ∉ wr := fun h => hCf (W.sub _ h)
  have hDw : D ∉ wr := fun h => hDf (W.sub _ h)
  by_cases hlt : i < n
  · refine W.item i _ _ _ hlt hst' fun v h₁ tk₁ hMd hk₁ => ?_
    refine W.go i v _ _ _ hMd fun h₂ hP hst₂ hk₂ => ?_
    have up₂ : ∀ b o, b ∉ wr → H.get? b = some o → h₂.get? b = some o := fun b o hb x => hk₂ b o hb (hk₁ b o hb x)
    have hn₂ : h₂.Ns cenv.locals m' := hn'.at' fun o e => up₂ _ o hCw e
    have hacc₂ : h₂.DictOf knd D kvs := hacc'.at fun o e => up₂ _ o hDw e
    refine wpAny_mono (turn i v h₂ tk₁ m' hlt hP hn₂ fun b o hbC hbf hbD e => up₂ b o hbf (hk b o hbC hbf hbD e)) (fun _ s₃ h₃ => wpAny_mono h₃ (fun key s₄ h₄ => wpAny_mono h₄ (fun y s₅ h₅ => ?_) fun _ _ e => e) fun _ _ e => e) fun _ _ e => e
    obtain ⟨⟨kk, hkk, hFk⟩, h₅, tk₅, m₅, rfl, hn₅, hk₅⟩ := h₅
    have hkv : kvs.length ≤ sizeLine := by have := hF.length_le; omega
    refine wpAny_dictSet_pairs (hsz := hkv) hkk (hacc₂.at fun o e => hk₅ _ o hDC e) fun h₆ hl₆ hs₆ => ?_
    refine ⟨n + 1 - (i + 1), Nat.sub_lt_sub_left (Nat.lt_succ_of_lt hlt) (Nat.lt_succ_self i), h₆, _, m₅, stored kvs kk y, i + 1, rfl, ?_, hl₆, hn₅.sameBut hs₆ (Ne.symm hDC), .snoc hF hFk, hlt, rfl,
      fun b o hbC hbf hbD e => hs₆.extBut b o hbD (hk₅ b o hbC (up₂ b o hbf (hk b o hbC hbf hbD e)))⟩
    exact W.frame _ _ h₆ hst₂ fun b hb o e => hs₆.extBut b o (fun h => hDf (h ▸ hb)) (hk₅ b o (fun h => hCf (h ▸ hb)) e)
  · have hin : i = n := by omega
    subst hin
    refine W.done _ _ _ hst' fun h₁ tk₁ hk₁ => ?_
    exact hR h₁ tk₁ m' kvs (hn'.at' fun o e => hk₁ _ o hCw e) (hacc'.at fun o e => hk₁ _ o hDw e) hF fun b o hbC hbf hbD e => hk₁ b o hbf (hk b o hbC hbf hbD e)

theorem dc_block {kx vx target iter : Expr} {scope : Scope} {cl : List (Str × Addr)} {pos : Pos} {s₂ : Shared} {I : Addr} {fp wr : List Addr} {n : Nat} {P Md : Nat → Value → Heap → Prop} {St : Nat → Heap → Prop} {RR : Value → Addr → Result → Shared → Prop}
    (W : KTurns prog w A target I fp wr n P Md St) (FKV : Nat → K → Value → Prop) (hcell : ∀ y ∈ scope.names, y.2 ≠ .cell) (hkind : scope.kind = .function)
    (hself : ∀ (s : Shared) (Q : Value → Shared → Prop) (E : Value → Shared → Prop), St 0 s.heap → Q (.ref I) s → wpAny (model prog w) A (pyIter (.ref I)) Q E s) (hsz : n ≤ sizeLine) (hst : St 0 s₂.heap) (hfp : ∀ b ∈ fp, b < s₂.heap.objs.size)
    (turn : ∀ C (E' : Value → Shared → Prop) i v h₁ tk₁ m₁, s₂.heap.objs.size ≤ C → i < n → P i v h₁ → h₁.Ns C m₁ → (∀ b o, b ∉ wr → s₂.heap.get? b = some o → h₁.get? b = some o) →
        wpAny (model prog w) A (assign target (compEnvC scope cl C env) v) (fun _ s₃ => wpAny (model prog w) A (eval kx (compEnvC scope cl C env)) (fun key s₄ => wpAny (model prog w) A (eval vx (compEnvC scope cl C env)) (fun y s₅ => DcEnd knd FKV i C { s₂ with heap := h₁, toks := tk₁ } key y s₅)
          E' s₄) E' s₃) E' { s₂ with heap := h₁, toks := tk₁ })
    (hRR : ∀ D C h' tk m' kvs, s₂.heap.get? D = none → s₂.heap.objs.size ≤ D → s₂.heap.get? C = none → D ≠ C → h'.Ns C m' → h'.DictOf knd D kvs → StoredN FKV n kvs → (∀ b o, b ∉ wr → s₂.heap.get? b = some o → h'.get? b = some o) → RR (.ref D) C (.ok .next) { s₂ with heap := h', toks := tk }) :
    wpAny (model prog w) A newDict (fun acc s₃ => wpAny (model prog w) A (newFunctionEnv scope env.globals cl [] env.qual none .none (some env)) (fun cenv s₄ =>
      codeAny (model prog w) A (.compStart (.DictComp kx vx [⟨target, iter, [], 0⟩] scope pos) 0 (.ref I) acc { cenv with scope := relabel scope env }) (RR acc cenv.locals) s₄) E s₃) E s₂ := by
  refine wpAny_newObj_type (wpAny_newFunctionEnv hcell (by intro y hy; simp at hy) (fun h₁ hns₁ hsb₁ => ?_) hkind)
  dsimp only at hns₁ hsb₁ ⊢
  have hnew : (s₂.heap.push { cls := .type "dict", dict := none, data := .dict #[] }).DictOf knd s₂.heap.objs.size [] := Heap.DictOf.new s₂.heap
  generalize hH2 : s₂.heap.push { cls := .type "dict", dict := none, data := .dict #[] } = H2 at hns₁ hsb₁ hnew ⊢
  have hC : H2.objs.size = s₂.heap.objs.size + 1 := by rw [← hH2, Heap.size_push]
  have hDC : s₂.heap.objs.size ≠ H2.objs.size := by rw [hC]; exact Nat.ne_of_lt (Nat.lt_succ_self _)
  have below : ∀ b, b < s₂.heap.objs.size → b ≠ H2.objs.size ∧ b ≠ s₂.heap.objs.size := fun b hb => ⟨by rw [hC]; exact Nat.ne_of_lt (Nat.lt_succ_of_lt hb), Nat.ne_of_lt hb⟩
  have hDf : s₂.heap.objs.size ∉ fp := fun hm => Nat.lt_irrefl _ (hfp _ hm)
  have hCf : H2.objs.size ∉ fp := fun hm => by have := hfp _ hm; rw [hC] at this; exact Nat.lt_irrefl _ (Nat.lt_of_succ_lt this)
  have old : ∀ b o, s₂.heap.get? b = some o → h₁.get? b = some o := fun b o e => hsb₁.extBut b o (below b (Heap.lt_size e)).1 (Heap.get?_push_of_some _ (hH2 ▸ Heap.get?_push_of_some _ e))
  have hacc : h₁.DictOf knd s₂.heap.objs.size [] := hnew.at fun o e => hsb₁.extBut _ _ hDC (Heap.get?_push_of_some _ e)
  have hst₁ : St 0 h₁ := W.frame _ _ _ hst fun b _ o e => old b o e
  have fresh : ∀ a, s₂.heap.objs.size ≤ a → s₂.heap.get? a = none := fun a ha => by
    cases e : s₂.heap.get? a with
    | none => rfl
    | some o' => exact absurd (Heap.lt_size e) (Nat.not_lt.mpr ha)
  have loop : ∀ s₃ : Shared, s₃ = { s₂ with heap := h₁, toks := s₂.toks + ([] : List (Str × Value)).length } →
      codeAny (model prog w) A (.compLoop (.DictComp kx vx [⟨target, iter, [], 0⟩] scope pos) 0 (.ref I) (.ref s₂.heap.objs.size) (compEnvC scope cl H2.objs.size env))
        (RR (.ref s₂.heap.objs.size) H2.objs.size) s₃ := by
    rintro s₃ rfl
    refine dc_walk (knd := knd) (cenv := compEnvC scope cl H2.objs.size env) (hsz := hsz) W FKV hDC hDf hCf hst₁ hacc hns₁
      (fun i v h₁' tk₁ m₁ hi hP hn hk => turn _ _ i v h₁' tk₁ m₁ (by rw [hC]; exact Nat.le_succ _) hi hP hn fun b o hbf e => hk b o (below b (Heap.lt_size e)).1 hbf (below b (Heap.lt_size e)).2 (old b o e)) fun h' tk m' kvs hn hl hF hk => ?_
    exact hRR _ _ h' tk m' kvs (fresh _ (Nat.le_refl _)) (Nat.le_refl _) (fresh _ (by rw [hC]; exact Nat.le_succ _)) hDC hn hl hF fun b o hbf e =>
      hk b o (below b (Heap.lt_size e)).1 hbf (below b (Heap.lt_size e)).2 (old b o e)
  exact codeAny_compStart_dict (loop _ rfl) (hself _ _ _ hst₁ (loop _ rfl))

theorem Assign_DictComp_turns {kx vx iter target : Expr} {y : Str} {py : Pos} {scope : Scope} {cl : List (Str × Addr)} {pos spos : Pos} {Q : Flow → Shared → Prop} (knd : KeyKind prog w K) (FKV : Nat → K → Value → Prop)
    (hsw : swapsWith (.DictComp kx vx [⟨target, iter, [], 0⟩] scope pos) (some (.Name y py)) spos.line env = pure true)
    (hclos : closureFor scope env = pure cl) (hcell : ∀ y ∈ scope.names, y.2 ≠ .cell) (hkind : scope.kind = .function)
    (hnames : ∀ y ∈ scope.names, y.2 = .local → scope.names.lookup y.1 = some .local)
    (hy : env.kindOf y = some .local) (hp : (env.scope.kind == .class || (env.scope.kind == .module && env.locals != env.globals)) = false)
    (h : wpAny (model prog w) A (eval iter env) (fun xv s₁ => wpAny (model prog w) A (pyIter xv) (fun it s₂ => ∃ (I : Addr) (fp wr : List Addr) (n : Nat) (P Md : Nat → Value → Heap → Prop) (St : Nat → Heap → Prop) (m : Str → Option Value), Al5 (it = .ref I) (KTurns prog w A target I fp wr n P Md St) ((∀ (s : Shared) (Q : Value → Shared → Prop) (E : Value → Shared → Prop), St 0 s.heap → Q (.ref I) s → wpAny (model prog w) A (pyIter (.ref I)) Q E s)) (n ≤ sizeLine) (Al5 (St 0 s₂.heap) ((∀ b ∈ fp, b < s₂.heap.objs.size)) (env.locals ∉ wr) (s₂.heap.Ns env.locals m) (((∀ C (E' : Value → Shared → Prop) i v h₁ tk₁ m₁, s₂.heap.objs.size ≤ C → i < n → P i v h₁ → h₁.Ns C m₁ → (∀ b o, b ∉ wr → s₂.heap.get? b = some o → h₁.get? b = some o) →
        wpAny (model prog w) A (assign target (compEnvC scope cl C env) v) (fun _ s₃ => wpAny (model prog w) A (eval kx (compEnvC scope cl C env)) (fun key s₄ => wpAny (model prog w) A (eval vx (compEnvC scope cl C env)) (fun y s₅ => DcEnd knd FKV i C { s₂ with heap := h₁, toks := tk₁ } key y s₅)
          E' s₄) E' s₃) E' { s₂ with heap := h₁, toks := tk₁ })) ∧ ((∀ D h' tk kvs, s₂.heap.get? D = none → s₂.heap.objs.size ≤ D → h'.DictOf knd D kvs → StoredN FKV n kvs → h'.Ns env.locals (fun z => if z = y then some (.ref D) else m z) → (∀ b o, b ≠ env.locals → b ∉ wr → s₂.heap.get? b = some o → h'.get? b = some o) → Q .next { s₂ with heap := h', toks := tk }))))) E s₁) E s)
    (hs : ∀ x, foldedSetIterable iter env x = pure x) :
    wpAny (model prog w) A (exec (.Assign [.Name y py] (.DictComp kx vx [⟨target, iter, [], 0⟩] scope pos) spos) env) Q E s := by
  rw [exec_Assign_Name_used _ _ _ _ hsw]
  refine wpAny_bind (wpAny_standAt (wpAny_bind ?_))
  show wpAny _ A (do let _ ← comprehension (.DictComp kx vx [⟨target, iter, [], 0⟩] scope pos) scope env _ newDict false (eval iter env) (some (assign (.Name y py) env))) _ _ s
  refine wpAny_bind (wpAny_mono (wpAny_comprehension_free (use := some (assign (.Name y py) env)) (Q := fun _ s' => Q .next s') rfl hs hclos hkind hnames
    (wpAny_mono h (fun xv s₁ h₁ => wpAny_mono h₁ (fun it s₂ h₂ => ?_) fun _ _ e => e) fun _ _ e => e)) (fun _ s' hq => wpAny_pure (wpAny_pure hq)) fun _ _ e => e)
  obtain ⟨I, fp, wr, n, P, Md, St, m, rfl, W, hself, hsz, hst, hfp, hLf, hn, turn, hQ⟩ := h₂
  refine dc_block (knd := knd) (RR := fun acc C => compPost (model prog w) A E (some (assign (.Name y py) env)) (fun _ s' => Q .next s') acc C) W FKV hcell hkind hself hsz hst hfp turn ?_
  intro D C h' tk m' kvs hD hDz hC hDC hnC hl hF hk
  have hLC : env.locals ≠ C := by rintro rfl; obtain ⟨o, _, _, ho, _⟩ := hn; rw [hC] at ho; cases ho
  have hLD : env.locals ≠ D := by rintro rfl; obtain ⟨o, _, _, ho, _⟩ := hn; rw [hD] at ho; cases ho
  show wpAny _ A (assign (.Name y py) env (.ref D)) _ _ _
  refine wpAny_assign_Name (wpAny_storeName_local hy (hn.at' fun o e => hk _ o hLf e) (fun h₂ hn₂ hs₂ => ?_) hp)
  refine ⟨m', hnC.sameBut hs₂ (Ne.symm hLC), fun h₃ hs₃ => ?_⟩
  exact hQ D h₃ _ kvs hD hDz ((hl.extBut hs₂.extBut (Ne.symm hLD)).extBut hs₃.extBut hDC) hF (hn₂.sameBut hs₃ hLC) fun b o hbL hbf e =>
    hs₃.extBut b o (by rintro rfl; rw [hC] at e; cases e) (hs₂.extBut b o hbL (hk b o hbf e))
end
end
section
section
variable {prog : Program} {w : World} {A : Around} {E : Value → Shared → Prop} {s : Shared} {env : Env} {h₀ : Heap} {target : Expr} {body : List Stmt} {Q : Flow → Shared → Prop}
theorem iter_strB {x : Str} {t : Tok} {v : Str} {pv : Pos} {m₀ : Str → Option Value} {news : List (Addr × Obj)} (ha : x.cps.all (· < 128) = true)
    (hh : A.handled = none) (F : Fr h₀ env.locals s.heap m₀) (N : News h₀ env.locals s.heap news)
    (rest₀ : ∀ I : Addr, (∀ p ∈ news, p.1 < I) → ItemsRest prog w A E h₀ env (.Name v pv) body Q s [(I, "str_ascii_iterator")] [] ((signs x).map fun y => Itm.tok (Value.str y)) m₀ news) :
    wpAny (model prog w) A (pyIter (.str x t)) (fun it s₂ => TurnsAt prog w A h₀ env (.Name v pv) body Q E it s₂) E s := by
  refine wpAny_pyIter_ascii ha ?_
  refine ktg_core (tk0 := s.toks) (keep := []) (KTurns.ofWalks (Walks.strAscii hh s.heap.objs.size x t) fun i v s Q E st q => wpAny_of_eq (a := ()) rfl q) (by rw [List.length_map, signs_length]; rfl) ?_ ?_ ?_ ?_ ?_ ?_ ?_ ⟨_, Heap.get?_push_size _ rfl, rfl, rfl⟩ (F.push _) (fun p hp => ⟨Heap.get?_push_of_some _ (N p hp).1, (N p hp).2⟩) trivial (rest₀ _ fun p hp => Heap.lt_size (N p hp).1)
  · rintro i v h ⟨c, u, hc, rfl⟩
    exact ⟨Itm.tok (Value.str ⟨#[c]⟩), by rw [List.getElem?_map, signs_get hc]; rfl, u, rfl⟩
  · rintro i h ⟨it, hit, hic, _⟩
    exact ⟨[(s.heap.objs.size, it)], ⟨⟨rfl, hic⟩, trivial⟩, fun p hp => by rw [List.mem_singleton.mp hp]; exact hit⟩
  · intro b hb
    have hb' : b = s.heap.objs.size := by simpa using hb
    rw [hb']
    exact ⟨List.mem_cons_self .., next_is_new F⟩
  · intro b hb
    simpa using hb
  · intro b hb
    have hb' : b = s.heap.objs.size := by simpa using hb
    exact .inl (by simp [hb'])
  · intro hI
    exact absurd F.ns.lt ((List.mem_singleton.mp hI) ▸ Nat.lt_irrefl _)
  · intro p hp hI
    exact absurd (Heap.lt_size (N p hp).1) ((List.mem_singleton.mp hI) ▸ Nat.lt_irrefl _)
theorem itemsRest_indT {ws : List (Addr × String)} {keep : List (Addr × Obj)} (J : List Str → (Str → Option Value) → List (Addr × Obj) → Prop)
    (step : ∀ q rest m news, J (q :: rest) m news → ∀ t h tk, Fr h₀ env.locals h m → AllObj ws (fun its => News h₀ env.locals h (its ++ news) →
      ∀ P : Flow → Shared → Prop, (∀ f s₂, UnrPostW h₀ env.locals { s with heap := h, toks := tk } its (fun m' n' => SubL keep n' ∧ J rest m' n') Q f s₂ → Shut P f s₂) →
      wpAny (model prog w) A (assign target env (.str q t)) (fun _ s₂ => wpAny (model prog w) A (execs body env) (Shut P) E s₂) E { s with heap := h, toks := tk }))
    (done : ∀ m news, J [] m news → ∀ h tk, Fr h₀ env.locals h m → News h₀ env.locals h news → Q .next { s with heap := h, toks := tk }) :
    ∀ {qs : List Str} m news, J qs m news → ItemsRest prog w A E h₀ env target body Q s ws keep (qs.map fun y => Itm.tok (Value.str y)) m news := by
  intro qs
  induction qs with
  | nil => exact fun m news hj => ItemsRest.zero (done m news hj)
  | cons q qs ih =>
    intro m news hj
    refine ItemsRest.tok fun t h tk F => ?_
    have z := step q qs m news hj t h tk F
    refine allObj_mono (fun its y N => ?_) z
    refine wpAny_mono (y N _ fun _ _ x => x) (fun _ s₂ h₂ => wpAny_mono h₂ (fun f s₃ h₃ => ?_) fun _ _ e => e) fun _ _ e => e
    have up : UnrEndW h₀ env.locals { s with heap := h, toks := tk } its (fun m' n' => SubL keep n' ∧ J qs m' n') s₃ →
        UnrEndW h₀ env.locals { s with heap := h, toks := tk } its (fun m' n' => SubL keep n' ∧ ItemsRest prog w A E h₀ env target body Q s ws keep (qs.map fun y => Itm.tok (Value.str y)) m' n') s₃ := by
      rintro ⟨h', tk', m', news', e, F', N', ho, hk, hj'⟩
      exact ⟨h', tk', m', news', e, F', N', ho, hk, ih m' news' hj'⟩
    cases f with
    | ret v => exact h₃
    | brk => exact h₃
    | next => exact up h₃
    | cont => exact up h₃
end

theorem find_upd {K : Type} [DecidableEq K] (k j : K) (v : Value) : ∀ kvs : List (K × Value), ((kvs.map fun kv => if kv.1 = k then (kv.1, v) else kv).find? fun kv => decide (kv.1 = j)).map (·.2) =
    if j = k ∧ (kvs.any fun kv => decide (kv.1 = k)) = true then some v else (kvs.find? fun kv => decide (kv.1 = j)).map (·.2)
  | [] => by simp
  | p :: r => by
    have ih := find_upd k j v r
    rw [List.map_cons, List.find?_cons, List.find?_cons, List.any_cons]
    by_cases hp : p.1 = k
    · rw [if_pos hp]
      by_cases hj : p.1 = j
      · have e : j = k := hj.symm.trans hp
        rw [decide_eq_true hj, decide_eq_true hp, if_pos ⟨e, rfl⟩]
        rfl
      · have e : ¬ j = k := fun e => hj (hp.trans e.symm)
        rw [decide_eq_false hj, if_neg fun q => e q.1]
        rw [if_neg fun q => e q.1] at ih
        exact ih
    · rw [if_neg hp, decide_eq_false hp, Bool.false_or]
      by_cases hj : p.1 = j
      · have e : ¬ j = k := fun e => hp (hj.trans e)
        rw [decide_eq_true hj, if_neg fun q => e q.1]
      · rw [decide_eq_false hj]
        exact ih
theorem valueAt_stored {K : Type} [DecidableEq K] (kvs : List (K × Value)) (k j : K) (v : Value) : valueAt (stored kvs k v) j = if j = k then some v else valueAt kvs j := by
  unfold valueAt stored
  by_cases h : (kvs.any fun kv => decide (kv.1 = k)) = true
  · rw [if_pos h, find_upd]
    by_cases hj : j = k
    · rw [if_pos hj, if_pos ⟨hj, h⟩]
    · rw [if_neg hj, if_neg fun q => hj q.1]
  · rw [if_neg h, List.find?_append]
    by_cases hj : j = k
    · subst hj
      have : kvs.find? (fun kv => decide (kv.1 = j)) = none := by
        rw [List.find?_eq_none]; intro x hx he
        exact h (List.any_eq_true.mpr ⟨x, hx, he⟩)
      rw [this, if_pos rfl]; simp
    · have hk : ¬ k = j := fun e => hj e.symm
      rw [if_neg hj]; simp [hk]
end
section

noncomputable def FKV (ln : List Str) (i : Nat) (k : Str) (y : Value) : Prop := ln[i]? = some k ∧ (Ex2 fun q t => ln[(i + 5) % 6]? = some q ∧ y = .str q t)
noncomputable def nxtO (l : Str) : Option Str :=
  if l = Str.ofString "a" then some (Str.ofString "b") else if l = Str.ofString "b" then some (Str.ofString "c") else if l = Str.ofString "c" then some (Str.ofString "d")
  else if l = Str.ofString "d" then some (Str.ofString "e") else if l = Str.ofString "e" then some (Str.ofString "f") else if l = Str.ofString "f" then some (Str.ofString "a") else none
theorem after_at (t0 t1 t2 t3 t4 t5 t6 t7 t8 t9 t10 t11 : Tok) (l q : Str) (h : nxtO l = some q) :
    ∃ t, valueAt (strPairs [(.str (Str.ofString "a") t0, .str (Str.ofString "b") t1), (.str (Str.ofString "b") t2, .str (Str.ofString "c") t3), (.str (Str.ofString "c") t4, .str (Str.ofString "d") t5),
      (.str (Str.ofString "d") t6, .str (Str.ofString "e") t7), (.str (Str.ofString "e") t8, .str (Str.ofString "f") t9), (.str (Str.ofString "f") t10, .str (Str.ofString "a") t11)]) l = some (.str q t) := by
  unfold nxtO at h
  have ne : ∀ {a b : Str}, ¬ a = b → decide (b = a) = false := fun h => decide_eq_false fun e => h e.symm
  show ∃ t, ((List.find? (fun kv : Str × Value => decide (kv.1 = l)) [(Str.ofString "a", .str (Str.ofString "b") t1), (Str.ofString "b", .str (Str.ofString "c") t3), (Str.ofString "c", .str (Str.ofString "d") t5),
      (Str.ofString "d", .str (Str.ofString "e") t7), (Str.ofString "e", .str (Str.ofString "f") t9), (Str.ofString "f", .str (Str.ofString "a") t11)]).map (·.2)) = some (.str q t)
  split at h
  · rename_i e; subst e; cases h; exact ⟨t1, by rw [List.find?_cons_of_pos (by simp)]; rfl⟩
  rename_i n1
  rw [List.find?_cons_of_neg (by simp [ne n1])]
  split at h
  · rename_i e; subst e; cases h; exact ⟨t3, by rw [List.find?_cons_of_pos (by simp)]; rfl⟩
  rename_i n1
  rw [List.find?_cons_of_neg (by simp [ne n1])]
  split at h
  · rename_i e; subst e; cases h; exact ⟨t5, by rw [List.find?_cons_of_pos (by simp)]; rfl⟩
  rename_i n1
  rw [List.find?_cons_of_neg (by simp [ne n1])]
  split at h
  · rename_i e; subst e; cases h; exact ⟨t7, by rw [List.find?_cons_of_pos (by simp)]; rfl⟩
  rename_i n1
  rw [List.find?_cons_of_neg (by simp [ne n1])]
  split at h
  · rename_i e; subst e; cases h; exact ⟨t9, by rw [List.find?_cons_of_pos (by simp)]; rfl⟩
  rename_i n1
  rw [List.find?_cons_of_neg (by simp [ne n1])]
  split at h
  · rename_i e; subst e; cases h; exact ⟨t11, by rw [List.find?_cons_of_pos (by simp)]; rfl⟩
  · cases h
noncomputable def aheadN (ln : List Str) : Nat → Str → Option Str
  | 0, _ => none
  | n + 1, k => if ln[n]? = some k then ln[(n + 5) % 6]? else aheadN ln n k
theorem ahead_at {ln : List Str} {n : Nat} {kvs : List (Str × Value)} (h : StoredN (FKV ln) n kvs) : ∀ k q, aheadN ln n k = some q → ∃ t, valueAt kvs k = some (.str q t) := by
  induction h with
  | nil => intro k q e; cases e
  | @snoc i kvs k' y _ hF ih =>
    intro k q e
    obtain ⟨h1, p, t, h2, rfl⟩ := hF
    rw [valueAt_stored]
    unfold aheadN at e
    by_cases hk : k = k'
    · subst hk
      rw [if_pos h1, h2] at e
      cases e
      exact ⟨t, if_pos rfl⟩
    · have : ¬ ln[i]? = some k := fun q => hk (by rw [h1] at q; exact (Option.some.inj q).symm)
      rw [if_neg this] at e
      rw [if_neg hk]
      exact ih k q e
noncomputable def ringF (ln : List Str) (inS : Str → Str → Bool) : Nat → Str → Str → Option Str
  | 0, _, _ => none
  | f + 1, seen, l => if inS l seen then some seen else if 100 < seen.length ∨ 100 < l.length then none else match nxtO l with
    | none => none
    | some k => match aheadN ln 6 k with
      | none => none
      | some q => ringF ln inS f (seen ++ l) q
noncomputable def inStr (l seen : Str) : Bool := !(Builtin.Str.occurrences seen l 0 seen.length 1).isEmpty
noncomputable def ringsF (ln : List Str) (inS : Str → Str → Bool) : List Str → Str → Int → Option Int
  | [], _, r => some r
  | l :: rest, seen, r => match ringF ln inS 8 seen l with
    | none => none
    | some seen' => ringsF ln inS rest seen' (if inS l seen then r else r + 1)
theorem ringF_step {ln : List Str} {inS : Str → Str → Bool} {n : Nat} {seen l z : Str} (h : ringF ln inS n seen l = some z) :
    (inS l seen = true ∧ z = seen) ∨ (inS l seen = false ∧ seen.length ≤ 100 ∧ l.length ≤ 100 ∧ (Ex3 fun f k q => Al4 (n = f + 1) (nxtO l = some k) (aheadN ln 6 k = some q) (ringF ln inS f (seen ++ l) q = some z))) := by
  cases n with
  | zero => cases h
  | succ f =>
    unfold ringF at h
    cases hi : inS l seen with
    | true => rw [hi, if_pos rfl] at h; exact .inl ⟨rfl, (Option.some.inj h).symm⟩
    | false =>
      rw [hi, if_neg (by decide)] at h
      by_cases hb : 100 < seen.length ∨ 100 < l.length
      · rw [if_pos hb] at h; cases h
      · rw [if_neg hb] at h
        cases hk : nxtO l with
        | none => rw [hk] at h; cases h
        | some k =>
          rw [hk] at h
          cases hq : aheadN ln 6 k with
          | none => simp only [hq] at h; cases h
          | some q =>
            simp only [hq] at h
            exact .inr ⟨rfl, by omega, by omega, f, k, q, rfl, rfl, hq, h⟩
theorem ringsF_step {ln : List Str} {inS : Str → Str → Bool} {seen l : Str} {rest : List Str} {r z : Int} (h : ringsF ln inS (l :: rest) seen r = some z) :
    ∃ s', ringF ln inS 8 seen l = some s' ∧ (inS l seen = true → ringsF ln inS rest s' r = some z) ∧ (inS l seen = false → ringsF ln inS rest s' (r + 1) = some z) := by
  unfold ringsF at h
  cases hk : ringF ln inS 8 seen l with
  | none => rw [hk] at h; cases h
  | some s' =>
    rw [hk] at h
    refine ⟨s', rfl, fun e => ?_, fun e => ?_⟩ <;> (rw [e] at h; simpa using h)
theorem item_sign {ln : Str} {i : Nat} (h : ln.length = 6) (hi : i < 6) : (signs ln)[(i + 5) % 6]? = some (Txt.item ln ((i : Int) - 1)) := by
  have hs : seqIndex? ((i : Int) - 1) ln.length = some ((i + 5) % 6) := by
    rw [h]
    exact (by decide : ∀ j : Fin 6, seqIndex? ((j : Nat) - 1 : Int) 6 = some (((j : Nat) + 5) % 6)) ⟨i, hi⟩
  have hlt : (i + 5) % 6 < ln.cps.size := by have : ln.cps.size = 6 := h; omega
  have hc : ln.cps[(i + 5) % 6]? = some ln.cps[(i + 5) % 6] := Array.getElem?_eq_getElem hlt
  rw [signs_get hc]
  unfold Txt.item Txt.charAt
  rw [hs, Option.bind_some, hc]
  rfl
theorem fresh_ne {h₀ h : Heap} {L D : Addr} {m : Str → Option Value} (F : Fr h₀ L h m) (hD : h.get? D = none) : D ≠ L ∧ h₀.get? D = none := by
  constructor
  · intro e
    obtain ⟨o, _, _, ho, _⟩ := F.ns
    rw [← e, hD] at ho
    cases ho
  · cases hh : h₀.get? D with
    | none => rfl
    | some o => have q := F.keep _ _ hh; rw [hD] at q; cases q
end
section
section
variable {prog : Program} {w : World} {A : Around} {E : Value → Shared → Prop} {R : Result → Shared → Prop} {s : Shared}
noncomputable abbrev TestsOf (prog : Program) (w : World) (ifs : List Expr) (env : Env) : Sem Bool :=
  forIn ifs true fun c r => if r = true then do let ok ← isTrue c env (eval c env); pure (ForInStep.yield ok) else pure (ForInStep.yield r)
theorem lc_loop {elt target iter : Expr} {ifs : List Expr} {scope : Scope} {pos : Pos} {it acc : Value} {env : Env} (I : Nat → Shared → Prop)
    (turn : ∀ n s, I n s → wpAny (model prog w) A (pyNext it) (fun r s₁ => match r with
      | none => R (.ok .next) s₁
      | some v => wpAny (model prog w) A (letOwnedTupleGo target it v) (fun _ s₀ => wpAny (model prog w) A (assign target env v) (fun _ s₂ =>
          wpAny (model prog w) A (TestsOf prog w ifs env) (fun ok s₃ =>
            if ok = true then wpAny (model prog w) A (eval elt env) (fun x s₄ =>
              wpAny (model prog w) A (call (.builtin "list.append") [acc, x]) (fun _ s₅ => ∃ m, m < n ∧ I m s₅) (notedBy (model prog w) A env fun e s' => R (.error e) s') s₄) (notedBy (model prog w) A env fun e s' => R (.error e) s') s₃
            else ∃ m, m < n ∧ I m s₃) (notedBy (model prog w) A env fun e s' => R (.error e) s') s₂) (notedBy (model prog w) A env fun e s' => R (.error e) s') s₀) (notedBy (model prog w) A env fun e s' => R (.error e) s') s₁) (notedBy (model prog w) A env fun e s' => R (.error e) s') s)
    (n : Nat) (h : I n s) :
    codeAny (model prog w) A (.compLoop (.ListComp elt [⟨target, iter, ifs, 0⟩] scope pos) 0 it acc env) R s := by
  refine codeAny_loop rfl I (fun n s hI => ?_) n h
  show wpAny _ A ((compTurn (.ListComp elt [⟨target, iter, ifs, 0⟩] scope pos) 0 it acc env).onRaise (fun x => do noteFrame x env; theTreesLotGoes x)) _ _ s
  refine wpAny_noted ?_
  rw [compTurn_list]
  refine wpAny_bind (wpAny_standAt (wpAny_bind (wpAny_mono (turn n s hI) (fun r s₁ h₁ => ?_) fun _ _ h' => h')))
  cases r with
  | none => exact wpAny_pure h₁
  | some v =>
    refine wpAny_bind (wpAny_mono h₁ (fun _ s₀ h₀ => ?_) fun _ _ h' => h')
    refine wpAny_bind (wpAny_mono h₀ (fun _ s₂ h₂ => wpAny_bind (wpAny_mono h₂ (fun ok s₃ h₃ => ?_) fun _ _ h' => h')) fun _ _ h' => h')
    cases ok with
    | false => exact wpAny_pure ⟨rfl, h₃⟩
    | true =>
      exact wpAny_bind (wpAny_bind (wpAny_mono h₃ (fun x s₄ h₄ => wpAny_bind (wpAny_mono h₄ (fun _ s₅ h₅ => wpAny_pure (wpAny_pure ⟨rfl, h₅⟩)) fun _ _ h' => h')) fun _ _ h' => h'))
end

inductive GotN (F : Nat → Option Value → Heap → Prop) (h : Heap) : Nat → List Value → Prop
  | nil : GotN F h 0 []
  | keep {i vs y} : GotN F h i vs → F i (some y) h → GotN F h (i + 1) (vs ++ [y])
  | skip {i vs} : GotN F h i vs → F i none h → GotN F h (i + 1) vs
theorem GotN.mono {F : Nat → Option Value → Heap → Prop} {h h' : Heap} (k : ∀ i o, F i o h → F i o h') {n : Nat} {vs : List Value} (g : GotN F h n vs) : GotN F h' n vs := by
  induction g with
  | nil => exact .nil
  | keep _ f ih => exact .keep ih (k _ _ f)
  | skip _ f ih => exact .skip ih (k _ _ f)
theorem GotN.length_le {F : Nat → Option Value → Heap → Prop} {h : Heap} {n : Nat} {vs : List Value} (g : GotN F h n vs) : vs.length ≤ n := by
  induction g with
  | nil => exact Nat.le_refl _
  | keep _ _ ih => rw [List.length_append, List.length_singleton]; omega
  | skip _ _ ih => omega

noncomputable def FinE (F : Addr → Nat → Option Value → Heap → Prop) (Q : Value → Shared → Prop) (n : Nat) (wr : List Addr) (s₂ : Shared) : Prop :=
  ∀ D C h' tk vs, s₂.heap.get? D = none → s₂.heap.objs.size ≤ D → D < C → h'.PlainList D (List.toArray vs) → GotN (F C) h' n vs → (∀ b o, b ∉ wr → s₂.heap.get? b = some o → h'.get? b = some o) → Q (.ref D) { s₂ with heap := h', toks := tk }
noncomputable def FinA (L : Addr) (y : Str) (F : Addr → Nat → Option Value → Heap → Prop) (Q : Flow → Shared → Prop) (n : Nat) (wr : List Addr) (s₂ : Shared) : Prop :=
  L ∉ wr ∧ ∃ m, s₂.heap.Ns L m ∧ ∀ D C h' tk vs, s₂.heap.get? D = none → s₂.heap.objs.size ≤ D → D < C → h'.PlainList D (List.toArray vs) → GotN (F C) h' n vs → h'.Ns L (fun z => if z = y then some (.ref D) else m z) →
    (∀ b o, b ≠ L → b ∉ wr → s₂.heap.get? b = some o → h'.get? b = some o) → Q .next { s₂ with heap := h', toks := tk }

section
variable {prog : Program} {w : World} {A : Around} {E : Value → Shared → Prop} {R : Result → Shared → Prop} {s : Shared} {env : Env}
noncomputable def LcEnd (F : Nat → Option Value → Heap → Prop) (i : Nat) (C : Addr) (s₁ : Shared) (o : Option Value) (s₅ : Shared) : Prop :=
  F i o s₅.heap ∧ (Ex3 fun h' tk' m' => Al3 (s₅ = { s₁ with heap := h', toks := tk' }) (h'.Ns C m') (∀ b o, b ≠ C → s₁.heap.get? b = some o → h'.get? b = some o))

noncomputable def LcTurn (prog : Program) (w : World) (A : Around) (target elt : Expr) (ifs : List Expr) (cenv : Env) (F : Nat → Option Value → Heap → Prop) (i : Nat) (v : Value) (E' : Value → Shared → Prop) (s₁ : Shared) : Prop :=
  wpAny (model prog w) A (assign target cenv v) (fun _ s₃ => wpAny (model prog w) A (TestsOf prog w ifs cenv) (fun ok s₄ =>
    if ok = true then wpAny (model prog w) A (eval elt cenv) (fun y s₅ => LcEnd F i cenv.locals s₁ (some y) s₅) E' s₄ else LcEnd F i cenv.locals s₁ none s₄) E' s₃) E' s₁

theorem lc_walk {elt target iter : Expr} {ifs : List Expr} {scope : Scope} {pos : Pos} {I D : Addr} {fp wr : List Addr} {n : Nat} {P Md : Nat → Value → Heap → Prop} {St : Nat → Heap → Prop}
    {cenv : Env} {m : Str → Option Value} (W : KTurns prog w A target I fp wr n P Md St) (F : Nat → Option Value → Heap → Prop)
    (stab : ∀ i o h h', (∀ b x, cenv.locals < b → h.get? b = some x → h'.get? b = some x) → F i o h → F i o h')
    (hDC : D < cenv.locals) (hDf : D ∉ fp) (hCf : ∀ b ∈ fp, b < cenv.locals)
    (hst : St 0 s.heap) (hacc : s.heap.PlainList D #[]) (hn : s.heap.Ns cenv.locals m)
    (turn : ∀ i v h₁ tk₁ m₁, i < n → P i v h₁ → h₁.Ns cenv.locals m₁ → (∀ b o, b ≠ cenv.locals → b ∉ wr → b ≠ D → s.heap.get? b = some o → h₁.get? b = some o) →
      LcTurn prog w A target elt ifs cenv F i v (notedBy (model prog w) A cenv fun e s' => R (.error e) s') { s with heap := h₁, toks := tk₁ })
    (hR : ∀ h' tk m' vs, h'.Ns cenv.locals m' → h'.PlainList D (List.toArray vs) → GotN F h' n vs → (∀ b o, b ≠ cenv.locals → b ∉ wr → b ≠ D → s.heap.get? b = some o → h'.get? b = some o) → R (.ok .next) { s with heap := h', toks := tk })
    (hsz : n ≤ sizeLine) :
    codeAny (model prog w) A (.compLoop (.ListComp elt [⟨target, iter, ifs, 0⟩] scope pos) 0 (.ref I) (.ref D) cenv) R s := by
  have hDCn : D ≠ cenv.locals := Nat.ne_of_lt hDC
  refine lc_loop
    (fun k s' => (Ex5 fun h' tk m' vs i => Al5 (s' = { s with heap := h', toks := tk }) (St i h') (h'.PlainList D (List.toArray vs)) (h'.Ns cenv.locals m') (Al4 (GotN F h' i vs) (i ≤ n) (k = n + 1 - i) (∀ b o, b ≠ cenv.locals → b ∉ wr → b ≠ D → s.heap.get? b = some o → h'.get? b = some o)))) ?_ (n + 1)
    ⟨s.heap, s.toks, m, [], 0, rfl, hst, hacc, hn, .nil, Nat.zero_le _, rfl, fun _ _ _ _ _ e => e⟩
  rintro k s' ⟨H, tk, m', vs, i, rfl, hst', hacc', hn', hF, hi, rfl, hk⟩
  have hCw : cenv.locals ∉ wr := fun h => Nat.lt_irrefl _ (hCf _ (W.sub _ h))
  have hDw : D ∉ wr := fun h => hDf (W.sub _ h)
  have hiw : ∀ b, cenv.locals < b → b ∉ wr := fun b hb h => Nat.lt_irrefl _ (Nat.lt_trans hb (hCf _ (W.sub _ h)))
  by_cases hlt : i < n
  · refine W.item i _ _ _ hlt hst' fun v h₁ tk₁ hMd hk₁ => ?_
    refine W.go i v _ _ _ hMd fun h₂ hP hst₂ hk₂ => ?_
    have up₂ : ∀ b o, b ∉ wr → H.get? b = some o → h₂.get? b = some o := fun b o hb x => hk₂ b o hb (hk₁ b o hb x)
    have hn₂ : h₂.Ns cenv.locals m' := hn'.at' fun o e => up₂ _ o hCw e
    have hacc₂ : h₂.PlainList D (List.toArray vs) := hacc'.at fun o e => up₂ _ o hDw e
    have hvs : vs.length ≤ sizeLine := by have := hF.length_le; omega
    refine wpAny_mono (turn i v h₂ tk₁ m' hlt hP hn₂ fun b o hbC hbf hbD e => up₂ b o hbf (hk b o hbC hbf hbD e)) (fun _ s₃ h₃ => wpAny_mono h₃ (fun ok s₄ h₄ => ?_) fun _ _ e => e) fun _ _ e => e
    cases ok with
    | false =>
      simp only [Bool.false_eq_true, if_false] at h₄ ⊢
      obtain ⟨hFi, h₅, tk₅, m₅, rfl, hn₅, hk₅⟩ := h₄
      refine ⟨n + 1 - (i + 1), Nat.sub_lt_sub_left (Nat.lt_succ_of_lt hlt) (Nat.lt_succ_self i), h₅, tk₅, m₅, vs, i + 1, rfl, ?_, hacc₂.at fun o e => hk₅ _ o hDCn e, hn₅, .skip (hF.mono fun j o => stab j o _ _ fun b x hb e => hk₅ b x (Nat.ne_of_gt hb) (up₂ b x (hiw b hb) e)) hFi, hlt, rfl,
        fun b o hbC hbf hbD e => hk₅ b o hbC (up₂ b o hbf (hk b o hbC hbf hbD e))⟩
      exact W.frame _ _ h₅ hst₂ fun b hb o e => hk₅ b o (Nat.ne_of_lt (hCf b hb)) e
    | true =>
      simp only [if_true] at h₄ ⊢
      refine wpAny_mono h₄ (fun y s₅ h₅ => ?_) fun _ _ e => e
      obtain ⟨hFi, h₅, tk₅, m₅, rfl, hn₅, hk₅⟩ := h₅
      have hacc₅ : h₅.PlainList D (List.toArray vs) := hacc₂.at fun o e => hk₅ _ o hDCn e
      refine wpAny_list_append_plain (hsz := by simpa using hvs) hacc₅ fun h₆ hl₆ hs₆ => ?_
      refine ⟨n + 1 - (i + 1), Nat.sub_lt_sub_left (Nat.lt_succ_of_lt hlt) (Nat.lt_succ_self i), h₆, tk₅, m₅, vs ++ [y], i + 1, rfl, ?_, by simpa using hl₆, hn₅.sameBut hs₆ (Ne.symm hDCn), .keep (hF.mono fun j o => stab j o _ _ fun b x hb e => hs₆.extBut b x (Nat.ne_of_gt (Nat.lt_trans hDC hb)) (hk₅ b x (Nat.ne_of_gt hb) (up₂ b x (hiw b hb) e)))
        (stab _ _ _ _ (fun b x hb e => hs₆.extBut b x (Nat.ne_of_gt (Nat.lt_trans hDC hb)) e) hFi), hlt, rfl,
        fun b o hbC hbf hbD e => hs₆.extBut b o hbD (hk₅ b o hbC (up₂ b o hbf (hk b o hbC hbf hbD e)))⟩
      exact W.frame _ _ h₆ hst₂ fun b hb o e => hs₆.extBut b o (fun h => hDf (h ▸ hb)) (hk₅ b o (Nat.ne_of_lt (hCf b hb)) e)
  · have hin : i = n := by omega
    subst hin
    refine W.done _ _ _ hst' fun h₁ tk₁ hk₁ => ?_
    exact hR h₁ tk₁ m' vs (hn'.at' fun o e => hk₁ _ o hCw e) (hacc'.at fun o e => hk₁ _ o hDw e) (hF.mono fun j o => stab j o _ _ fun b x hb e => hk₁ b x (hiw b hb) e) fun b o hbC hbf hbD e => hk₁ b o hbf (hk b o hbC hbf hbD e)

noncomputable def LcSrc (prog : Program) (w : World) (A : Around) (env : Env) (target elt : Expr) (ifs : List Expr) (scope : Scope) (cl : List (Str × Addr)) (F : Addr → Nat → Option Value → Heap → Prop) (Fin : Nat → List Addr → Shared → Prop) (it : Value) (s₂ : Shared) : Prop :=
  ∃ (I : Addr) (fp wr : List Addr) (n : Nat) (P Md : Nat → Value → Heap → Prop) (St : Nat → Heap → Prop), Al5 (it = .ref I) (KTurns prog w A target I fp wr n P Md St) ((∀ (s : Shared) (Q : Value → Shared → Prop) (E : Value → Shared → Prop), St 0 s.heap → Q (.ref I) s → wpAny (model prog w) A (pyIter (.ref I)) Q E s)) (n ≤ sizeLine) (Al4 (St 0 s₂.heap) ((∀ b ∈ fp, b < s₂.heap.objs.size)) ((∀ C (E' : Value → Shared → Prop) i v h₁ tk₁ m₁, s₂.heap.objs.size < C → i < n → P i v h₁ → h₁.Ns C m₁ → (∀ b o, b ∉ wr → s₂.heap.get? b = some o → h₁.get? b = some o) →
      LcTurn prog w A target elt ifs (compEnvC scope cl C env) (F C) i v E' { s₂ with heap := h₁, toks := tk₁ })) (Fin n wr s₂))

theorem lc_block {elt target iter : Expr} {ifs : List Expr} {scope : Scope} {cl : List (Str × Addr)} {pos : Pos} {s₂ : Shared} {I : Addr} {fp wr : List Addr} {n : Nat} {P Md : Nat → Value → Heap → Prop} {St : Nat → Heap → Prop} {RR : Value → Addr → Result → Shared → Prop}
    (W : KTurns prog w A target I fp wr n P Md St) (F : Addr → Nat → Option Value → Heap → Prop)
    (stab : ∀ C i o h h', (∀ b x, C < b → h.get? b = some x → h'.get? b = some x) → F C i o h → F C i o h') (hcell : ∀ y ∈ scope.names, y.2 ≠ .cell) (hkind : scope.kind = .function)
    (hself : ∀ (s : Shared) (Q : Value → Shared → Prop) (E : Value → Shared → Prop), St 0 s.heap → Q (.ref I) s → wpAny (model prog w) A (pyIter (.ref I)) Q E s) (hsz : n ≤ sizeLine) (hst : St 0 s₂.heap) (hfp : ∀ b ∈ fp, b < s₂.heap.objs.size)
    (turn : ∀ C (E' : Value → Shared → Prop) i v h₁ tk₁ m₁, s₂.heap.objs.size < C → i < n → P i v h₁ → h₁.Ns C m₁ → (∀ b o, b ∉ wr → s₂.heap.get? b = some o → h₁.get? b = some o) →
        LcTurn prog w A target elt ifs (compEnvC scope cl C env) (F C) i v E' { s₂ with heap := h₁, toks := tk₁ })
    (hRR : ∀ D C h' tk m' vs, s₂.heap.get? D = none → s₂.heap.get? C = none → D < C → s₂.heap.objs.size ≤ D → h'.Ns C m' → h'.PlainList D (List.toArray vs) → GotN (F C) h' n vs → (∀ b o, b ∉ wr → s₂.heap.get? b = some o → h'.get? b = some o) → RR (.ref D) C (.ok .next) { s₂ with heap := h', toks := tk }) :
    wpAny (model prog w) A (newList []) (fun acc s₃ => wpAny (model prog w) A (newFunctionEnv scope env.globals cl [] env.qual none .none (some env)) (fun cenv s₄ =>
      codeAny (model prog w) A (.compStart (.ListComp elt [⟨target, iter, ifs, 0⟩] scope pos) 0 (.ref I) acc { cenv with scope := relabel scope env }) (RR acc cenv.locals) s₄) E s₃) E s₂ := by
  refine wpAny_newObj_type (wpAny_newFunctionEnv hcell (by intro y hy; simp at hy) (fun h₁ hns₁ hsb₁ => ?_) hkind)
  dsimp only at hns₁ hsb₁ ⊢
  generalize hH2 : s₂.heap.push { cls := .type "list", dict := none, data := .seq ([] : List Value).toArray } = H2 at hns₁ hsb₁ ⊢
  have hC : H2.objs.size = s₂.heap.objs.size + 1 := by rw [← hH2, Heap.size_push]
  have hDl : s₂.heap.objs.size < H2.objs.size := by rw [hC]; exact Nat.lt_succ_self _
  have hDC : s₂.heap.objs.size ≠ H2.objs.size := Nat.ne_of_lt hDl
  have below : ∀ b, b < s₂.heap.objs.size → b ≠ H2.objs.size ∧ b ≠ s₂.heap.objs.size := fun b hb => ⟨by rw [hC]; exact Nat.ne_of_lt (Nat.lt_succ_of_lt hb), Nat.ne_of_lt hb⟩
  have hDf : s₂.heap.objs.size ∉ fp := fun hm => Nat.lt_irrefl _ (hfp _ hm)
  have hCf : ∀ b ∈ fp, b < H2.objs.size := fun b hm => Nat.lt_trans (hfp _ hm) hDl
  have old : ∀ b o, s₂.heap.get? b = some o → h₁.get? b = some o := fun b o e => hsb₁.extBut b o (below b (Heap.lt_size e)).1 (Heap.get?_push_of_some _ (hH2 ▸ Heap.get?_push_of_some _ e))
  have hacc : h₁.PlainList s₂.heap.objs.size #[] := ⟨_, hsb₁.extBut _ _ hDC (Heap.get?_push_of_some _ (hH2 ▸ Heap.get?_push_size _ rfl))⟩
  have hst₁ : St 0 h₁ := W.frame _ _ _ hst fun b _ o e => old b o e
  have fresh : ∀ a, s₂.heap.objs.size ≤ a → s₂.heap.get? a = none := fun a ha => by
    cases e : s₂.heap.get? a with
    | none => rfl
    | some o' => exact absurd (Heap.lt_size e) (Nat.not_lt.mpr ha)
  have loop : ∀ s₃ : Shared, s₃ = { s₂ with heap := h₁, toks := s₂.toks + ([] : List (Str × Value)).length } →
      codeAny (model prog w) A (.compLoop (.ListComp elt [⟨target, iter, ifs, 0⟩] scope pos) 0 (.ref I) (.ref s₂.heap.objs.size) (compEnvC scope cl H2.objs.size env))
        (RR (.ref s₂.heap.objs.size) H2.objs.size) s₃ := by
    rintro s₃ rfl
    refine lc_walk (cenv := compEnvC scope cl H2.objs.size env) (hsz := hsz) W (F H2.objs.size) (stab _) hDl hDf hCf hst₁ hacc hns₁
      (fun i v h₁' tk₁ m₁ hi hP hn hk => turn _ _ i v h₁' tk₁ m₁ hDl hi hP hn fun b o hbf e => hk b o (below b (Heap.lt_size e)).1 hbf (below b (Heap.lt_size e)).2 (old b o e)) fun h' tk m' vs hn hl hF hk => ?_
    exact hRR _ _ h' tk m' vs (fresh _ (Nat.le_refl _)) (fresh _ (Nat.le_of_lt hDl)) hDl (Nat.le_refl _) hn hl hF fun b o hbf e =>
      hk b o (below b (Heap.lt_size e)).1 hbf (below b (Heap.lt_size e)).2 (old b o e)
  exact codeAny_compStart_list (loop _ rfl) (hself _ _ _ hst₁ (loop _ rfl))

theorem ListComp_turns {elt iter target : Expr} {ifs : List Expr} {scope : Scope} {cl : List (Str × Addr)} {pos : Pos} {Q : Value → Shared → Prop} (F : Addr → Nat → Option Value → Heap → Prop)
    (stab : ∀ C i o h h', (∀ b x, C < b → h.get? b = some x → h'.get? b = some x) → F C i o h → F C i o h')
    (hclos : closureFor scope env = pure cl) (hcell : ∀ y ∈ scope.names, y.2 ≠ .cell) (hkind : scope.kind = .function)
    (hnames : ∀ y ∈ scope.names, y.2 = .local → scope.names.lookup y.1 = some .local)
    (h : wpAny (model prog w) A (eval iter env) (fun xv s₁ => wpAny (model prog w) A (pyIter xv) (fun it s₂ => LcSrc prog w A env target elt ifs scope cl F (FinE F Q) it s₂) E s₁) E s)
    (hs : ∀ x, foldedSetIterable iter env x = pure x) :
    wpAny (model prog w) A (eval (.ListComp elt [⟨target, iter, ifs, 0⟩] scope pos) env) Q E s := by
  rw [eval_ListComp]
  refine wpAny_comprehension_free (use := none) rfl hs hclos hkind hnames (wpAny_mono h (fun xv s₁ h₁ => wpAny_mono h₁ (fun it s₂ h₂ => ?_) fun _ _ e => e) fun _ _ e => e)
  obtain ⟨I, fp, wr, n, P, Md, St, rfl, W, hself, hsz, hst, hfp, turn, hQ⟩ := h₂
  refine lc_block (RR := fun acc C => compPost (model prog w) A E none Q acc C) W F stab hcell hkind hself hsz hst hfp turn ?_
  intro D C h' tk m' vs hD hC hDC hDs hn hl hF hk
  exact ⟨m', hn, fun h'' hs'' => hQ D C h'' tk vs hD hDs hDC (hl.extBut hs''.extBut (Nat.ne_of_lt hDC)) (hF.mono fun j o => stab C j o _ _ fun b x hb e => hs''.extBut b x (Nat.ne_of_gt hb) e) fun b o hbf e => hs''.extBut b o (by rintro rfl; rw [hC] at e; cases e) (hk b o hbf e)⟩

theorem Assign_ListComp_turns {elt iter target : Expr} {ifs : List Expr} {y : Str} {py : Pos} {scope : Scope} {cl : List (Str × Addr)} {pos spos : Pos} {Q : Flow → Shared → Prop} (F : Addr → Nat → Option Value → Heap → Prop)
    (stab : ∀ C i o h h', (∀ b x, C < b → h.get? b = some x → h'.get? b = some x) → F C i o h → F C i o h')
    (hsw : swapsWith (.ListComp elt [⟨target, iter, ifs, 0⟩] scope pos) (some (.Name y py)) spos.line env = pure true)
    (hclos : closureFor scope env = pure cl) (hcell : ∀ y ∈ scope.names, y.2 ≠ .cell) (hkind : scope.kind = .function)
    (hnames : ∀ y ∈ scope.names, y.2 = .local → scope.names.lookup y.1 = some .local)
    (hy : env.kindOf y = some .local) (hp : (env.scope.kind == .class || (env.scope.kind == .module && env.locals != env.globals)) = false)
    (h : wpAny (model prog w) A (eval iter env) (fun xv s₁ => wpAny (model prog w) A (pyIter xv) (fun it s₂ => LcSrc prog w A env target elt ifs scope cl F (FinA env.locals y F Q) it s₂) E s₁) E s)
    (hs : ∀ x, foldedSetIterable iter env x = pure x) :
    wpAny (model prog w) A (exec (.Assign [.Name y py] (.ListComp elt [⟨target, iter, ifs, 0⟩] scope pos) spos) env) Q E s := by
  rw [exec_Assign_Name_used _ _ _ _ hsw]
  refine wpAny_bind (wpAny_standAt (wpAny_bind ?_))
  show wpAny _ A (do let _ ← comprehension (.ListComp elt [⟨target, iter, ifs, 0⟩] scope pos) scope env _ (newList []) false (eval iter env) (some (assign (.Name y py) env))) _ _ s
  refine wpAny_bind (wpAny_mono (wpAny_comprehension_free (use := some (assign (.Name y py) env)) (Q := fun _ s' => Q .next s') rfl hs hclos hkind hnames
    (wpAny_mono h (fun xv s₁ h₁ => wpAny_mono h₁ (fun it s₂ h₂ => ?_) fun _ _ e => e) fun _ _ e => e)) (fun _ s' hq => wpAny_pure (wpAny_pure hq)) fun _ _ e => e)
  obtain ⟨I, fp, wr, n, P, Md, St, rfl, W, hself, hsz, hst, hfp, turn, hLf, m, hn, hQ⟩ := h₂
  refine lc_block (RR := fun acc C => compPost (model prog w) A E (some (assign (.Name y py) env)) (fun _ s' => Q .next s') acc C) W F stab hcell hkind hself hsz hst hfp turn ?_
  intro D C h' tk m' vs hD hC hDC hDs hnC hl hF hk
  have hLC : env.locals ≠ C := by rintro rfl; obtain ⟨o, _, _, ho, _⟩ := hn; rw [hC] at ho; cases ho
  have hLD : env.locals ≠ D := by rintro rfl; obtain ⟨o, _, _, ho, _⟩ := hn; rw [hD] at ho; cases ho
  have hLs : env.locals < s₂.heap.objs.size := hn.lt
  have hLC' : env.locals < C := Nat.lt_of_lt_of_le hLs (Nat.le_trans hDs (Nat.le_of_lt hDC))
  show wpAny _ A (assign (.Name y py) env (.ref D)) _ _ _
  refine wpAny_assign_Name (wpAny_storeName_local hy (hn.at' fun o e => hk _ o hLf e) (fun h₂ hn₂ hs₂ => ?_) hp)
  refine ⟨m', hnC.sameBut hs₂ (Ne.symm hLC), fun h₃ hs₃ => ?_⟩
  exact hQ D C h₃ _ vs hD hDs hDC ((hl.extBut hs₂.extBut (Ne.symm hLD)).extBut hs₃.extBut (Nat.ne_of_lt hDC))
    (hF.mono fun j o => stab C j o _ _ fun b x hb e => hs₃.extBut b x (Nat.ne_of_gt hb) (hs₂.extBut b x (Nat.ne_of_gt (Nat.lt_trans hLC' hb)) e)) (hn₂.sameBut hs₃ hLC) fun b o hbL hbf e =>
    hs₃.extBut b o (by rintro rfl; rw [hC] at e; cases e) (hs₂.extBut b o hbL (hk b o hbf e))
end
end
section
section
variable {prog : Program} {w : World} {A : Around} {E : Value → Shared → Prop} {s s₀ : Shared} {env : Env} {target elt : Expr} {ifs : List Expr} {scope : Scope} {cl : List (Str × Addr)} {F : Addr → Nat → Option Value → Heap → Prop} {Fin : Nat → List Addr → Shared → Prop}
noncomputable def SrcOk (s s₂ : Shared) (wr : List Addr) : Prop :=
  (Ex2 fun h tk => Al3 (s₂ = { s with heap := h, toks := tk }) ((∀ b o, s.heap.get? b = some o → h.get? b = some o ∧ b ∉ wr)) (s.heap.objs.size ≤ h.objs.size))
theorem none_up {h h' : Heap} (k : ∀ b o, h.get? b = some o → h'.get? b = some o) {D : Addr} (e : h'.get? D = none) : h.get? D = none := by
  cases hh : h.get? D with
  | none => rfl
  | some o => have q := k _ _ hh; rw [e] at q; cases q
theorem finE {Q : Value → Shared → Prop} {n : Nat} {wr : List Addr} {s₂ : Shared} (ok : SrcOk s s₂ wr)
    (done : ∀ D C h' tk vs, s.heap.get? D = none → s.heap.objs.size ≤ D → D < C → h'.PlainList D (List.toArray vs) → GotN (F C) h' n vs → (∀ b o, s.heap.get? b = some o → h'.get? b = some o) → Q (.ref D) { s with heap := h', toks := tk }) :
    FinE F Q n wr s₂ := by
  obtain ⟨h, tk, rfl, k, hz⟩ := ok
  intro D C h' tk' vs hD hDs hDC hl g hk
  exact done D C h' tk' vs (none_up (fun b o e => (k b o e).1) hD) (Nat.le_trans hz hDs) hDC hl g fun b o e => hk b o (k b o e).2 (k b o e).1
theorem finA {Q : Flow → Shared → Prop} {L : Addr} {y : Str} {n : Nat} {wr : List Addr} {s₂ : Shared} {m : Str → Option Value} (ok : SrcOk s s₂ wr) (hn : s.heap.Ns L m)
    (done : ∀ D C h' tk vs, s.heap.get? D = none → s.heap.objs.size ≤ D → D < C → h'.PlainList D (List.toArray vs) → GotN (F C) h' n vs → h'.Ns L (fun z => if z = y then some (.ref D) else m z) → (∀ b o, b ≠ L → s.heap.get? b = some o → h'.get? b = some o) → Q .next { s with heap := h', toks := tk }) :
    FinA L y F Q n wr s₂ := by
  obtain ⟨h, tk, rfl, k, hz⟩ := ok
  refine ⟨?_, m, hn.keeps fun b o e => (k b o e).1, ?_⟩
  · obtain ⟨o, _, _, ho, _⟩ := hn
    exact (k _ _ ho).2
  intro D C h' tk' vs hD hDs hDC hl g hns hk
  exact done D C h' tk' vs (none_up (fun b o e => (k b o e).1) hD) (Nat.le_trans hz hDs) hDC hl g hns fun b o hb e => hk b o hb (k b o e).2 (k b o e).1

theorem lsrc_list {ax : Addr} {vs : List Value} (hh : A.handled = none) (hl : s.heap.IsList ax vs.toArray) (hsz : vs.length ≤ sizeLine)
    (turn : ∀ C (E' : Value → Shared → Prop) i v h₁ tk₁ m₁, s.heap.objs.size < C → vs[i]? = some v → h₁.Ns C m₁ → (∀ b o, s.heap.get? b = some o → h₁.get? b = some o) → LcTurn prog w A target elt ifs (compEnvC scope cl C env) (F C) i v E' { s with heap := h₁, toks := tk₁ })
    (fin : ∀ s₂ wr, SrcOk s s₂ wr → Fin vs.length wr s₂) :
    wpAny (model prog w) A (pyIter (.ref ax)) (fun it s₂ => LcSrc prog w A env target elt ifs scope cl F Fin it s₂) E s := by
  obtain ⟨lo, hax, hc, n, hd⟩ := id hl
  have hlt : ax < s.heap.objs.size := Heap.lt_size hax
  have hne : ax ≠ s.heap.objs.size := Nat.ne_of_lt hlt
  refine wpAny_pyIter_list hl ?_
  have up : ∀ b o, s.heap.get? b = some o → (s.heap.push { cls := .type "list_iterator", data := .fields #[.ref ax, .int 0 0] }).get? b = some o ∧ b ∉ [s.heap.objs.size] := fun b o e =>
    ⟨Heap.get?_push_of_some _ e, fun h => absurd (Heap.lt_size e) ((List.mem_singleton.mp h) ▸ Nat.lt_irrefl _)⟩
  refine ⟨s.heap.objs.size, _, _, _, _, _, _, rfl, KTurns.ofWalks (Walks.list hh s.heap.objs.size ax hne vs.toArray) fun i v s Q E st q => letGo_listiter st.1 q,
    fun s' Q E st q => (Walks.list hh s.heap.objs.size ax hne vs.toArray).self 0 s' Q E st q, by simpa using hsz, ⟨⟨_, Heap.get?_push_size _ rfl, rfl, rfl⟩, hl.at fun o e => Heap.get?_push_of_some _ e⟩, ?_, ?_, ?_⟩
  · intro b hb
    have hb' : b = s.heap.objs.size ∨ b = ax := by simpa using hb
    rw [Heap.size_push]
    rcases hb' with e | e
    · rw [e]; exact Nat.lt_succ_self _
    · rw [e]; exact Nat.lt_succ_of_lt hlt
  · intro C E' i v h₁ tk₁ m₁ hC _ hP hn hk
    rw [Heap.size_push] at hC
    exact turn C E' i v h₁ tk₁ m₁ (Nat.lt_of_succ_lt hC) (by simpa using hP) hn fun b o e => hk b o (up b o e).2 (up b o e).1
  · have := fin { s with heap := s.heap.push { cls := .type "list_iterator", data := .fields #[.ref ax, .int 0 0] } } [s.heap.objs.size] ⟨_, s.toks, rfl, up, by rw [Heap.size_push]; exact Nat.le_succ _⟩
    simpa using this

theorem lsrc_tuple {ax : Addr} {vs : List Value} (hh : A.handled = none) (hl : s.heap.IsTuple ax vs.toArray) (hsz : vs.length ≤ sizeLine)
    (turn : ∀ C (E' : Value → Shared → Prop) i v h₁ tk₁ m₁, s.heap.objs.size < C → vs[i]? = some v → h₁.Ns C m₁ → (∀ b o, s.heap.get? b = some o → h₁.get? b = some o) → LcTurn prog w A target elt ifs (compEnvC scope cl C env) (F C) i v E' { s with heap := h₁, toks := tk₁ })
    (fin : ∀ s₂ wr, SrcOk s s₂ wr → Fin vs.length wr s₂) :
    wpAny (model prog w) A (pyIter (.ref ax)) (fun it s₂ => LcSrc prog w A env target elt ifs scope cl F Fin it s₂) E s := by
  obtain ⟨lo, hax, hc, n, hd⟩ := id hl
  have hlt : ax < s.heap.objs.size := Heap.lt_size hax
  have hne : ax ≠ s.heap.objs.size := Nat.ne_of_lt hlt
  refine wpAny_pyIter_tuple hl ?_
  have up : ∀ b o, s.heap.get? b = some o → (s.heap.push { cls := .type "tuple_iterator", data := .fields #[.ref ax, .int 0 0] }).get? b = some o ∧ b ∉ [s.heap.objs.size] := fun b o e =>
    ⟨Heap.get?_push_of_some _ e, fun h => absurd (Heap.lt_size e) ((List.mem_singleton.mp h) ▸ Nat.lt_irrefl _)⟩
  refine ⟨s.heap.objs.size, _, _, _, _, _, _, rfl, KTurns.ofWalks (Walks.tuple hh s.heap.objs.size ax hne vs.toArray) fun i v s Q E st q => letGo_tupleiter st.1 q,
    fun s' Q E st q => (Walks.tuple hh s.heap.objs.size ax hne vs.toArray).self 0 s' Q E st q, by simpa using hsz, ⟨⟨_, Heap.get?_push_size _ rfl, rfl, rfl⟩, hl.at fun o e => Heap.get?_push_of_some _ e⟩, ?_, ?_, ?_⟩
  · intro b hb
    have hb' : b = s.heap.objs.size ∨ b = ax := by simpa using hb
    rw [Heap.size_push]
    rcases hb' with e | e
    · rw [e]; exact Nat.lt_succ_self _
    · rw [e]; exact Nat.lt_succ_of_lt hlt
  · intro C E' i v h₁ tk₁ m₁ hC _ hP hn hk
    rw [Heap.size_push] at hC
    exact turn C E' i v h₁ tk₁ m₁ (Nat.lt_of_succ_lt hC) (by simpa using hP) hn fun b o e => hk b o (up b o e).2 (up b o e).1
  · have := fin { s with heap := s.heap.push { cls := .type "tuple_iterator", data := .fields #[.ref ax, .int 0 0] } } [s.heap.objs.size] ⟨_, s.toks, rfl, up, by rw [Heap.size_push]; exact Nat.le_succ _⟩
    simpa using this

theorem lsrc_enum {tes : List Expr} {tn : Nat} {tp : Pos} {ax : Addr} {vs : List Value} (hh : A.handled = none) (hl : s.heap.IsList ax vs.toArray) (hsz : vs.length ≤ sizeLine)
    (turn : ∀ C (E' : Value → Shared → Prop) i v T t h₁ tk₁ m₁, s.heap.objs.size < C → vs[i]? = some v → h₁.IsTuple T #[.int i t, v] → h₁.Ns C m₁ → (∀ b o, s.heap.get? b = some o → h₁.get? b = some o) → LcTurn prog w A (.Tuple tes tn tp) elt ifs (compEnvC scope cl C env) (F C) i (.ref T) E' { s with heap := h₁, toks := tk₁ })
    (fin : ∀ s₂ wr, SrcOk s s₂ wr → Fin vs.length wr s₂) :
    wpAny (model prog w) A (call (.type "enumerate") [.ref ax]) (fun xv s₁ => wpAny (model prog w) A (pyIter xv) (fun it s₂ => LcSrc prog w A env (.Tuple tes tn tp) elt ifs scope cl F Fin it s₂) E s₁) E s := by
  obtain ⟨lo, hax, hc, n, hd⟩ := id hl
  have hlt : ax < s.heap.objs.size := Heap.lt_size hax
  have hne : ax ≠ s.heap.objs.size := Nat.ne_of_lt hlt
  refine call_enumerate_list hl fun h' hE hI hz k => ?_
  refine wpAny_pyIter_enum hE ?_
  have hlI : h'.IsList ax vs.toArray := hl.at fun o e => k _ o e
  have up : ∀ b o, s.heap.get? b = some o → h'.get? b = some o ∧ b ∉ [s.heap.objs.size + 1, s.heap.objs.size] := fun b o e => ⟨k b o e, fun h => by
    have hb := Heap.lt_size e
    rcases List.mem_cons.mp h with rfl | h
    · exact absurd hb (Nat.not_lt.mpr (Nat.le_succ _))
    · rw [List.mem_singleton.mp h] at hb; exact Nat.lt_irrefl _ hb⟩
  have W := (WalksT.enumerateD (prog := prog) (w := w) (A := A) (Draws.list (A := Around.in1 A) (by first | exact hh | (show A.in1.handled = none; exact hh)) s.heap.objs.size ax hne vs.toArray) (s.heap.objs.size + 1) (Nat.succ_ne_self _)
    (by simp only [List.mem_cons, List.not_mem_nil, or_false]; rintro (e | e); exact Nat.succ_ne_self _ e; exact absurd hlt (Nat.not_lt.mpr (e ▸ Nat.le_succ _))) (by simp)).toU
  refine ⟨s.heap.objs.size + 1, _, _, _, _, _, _, rfl, KTurns.ofWalksU W, fun s' Q E st q => by obtain ⟨⟨o, e⟩, _⟩ := st; exact wpAny_pyIter_enum e q, by simpa using hsz, ⟨⟨_, hE⟩, hI, hlI⟩, ?_, ?_, ?_⟩
  · intro b hb
    have hb' : b = s.heap.objs.size + 1 ∨ b = s.heap.objs.size ∨ b = ax := by simpa using hb
    show b < h'.objs.size
    rw [hz]
    rcases hb' with e | e | e
    · rw [e]; exact Nat.lt_succ_self _
    · rw [e]; exact Nat.lt_succ_of_lt (Nat.lt_succ_self _)
    · rw [e]; exact Nat.lt_succ_of_lt (Nat.lt_succ_of_lt hlt)
  · rintro C E' i v h₁ tk₁ m₁ hC hi ⟨T, vals, rfl, ⟨t, y, hy, rfl⟩, hT⟩ hn hk
    have hC' : h'.objs.size < C := hC
    rw [hz] at hC'
    exact turn C E' i y T t h₁ tk₁ m₁ (Nat.lt_of_succ_lt (Nat.lt_of_succ_lt hC')) (by simpa using hy) hT hn fun b o e => hk b o (up b o e).2 (up b o e).1
  · have := fin { s with heap := h' } [s.heap.objs.size + 1, s.heap.objs.size] ⟨_, s.toks, rfl, up, by rw [hz]; exact Nat.le_add_right _ 2⟩
    simpa using this
end
theorem fr_comp {h₀ h : Heap} {C : Addr} {m : Str → Option Value} (hn : h.Ns C m) (k : ∀ b o, h₀.get? b = some o → h.get? b = some o) (hC : h₀.objs.size ≤ C) : Fr h₀ C h m := ⟨hn, k, hC⟩
theorem news_cons {h₀ h : Heap} {C c : Addr} {o : Obj} {r : List (Addr × Obj)} (ho : h.get? c = some o) (hc : h₀.objs.size ≤ c) (hne : c ≠ C) (N : News h₀ C h r) : News h₀ C h ((c, o) :: r) := fun q hq => by
  rcases List.mem_cons.mp hq with rfl | hq
  · exact ⟨ho, hne, Heap.get?_none_of_le hc⟩
  · exact N q hq
theorem fr_name {h₀ h : Heap} {L : Addr} {m : Str → Option Value} (_ : Fr h₀ L h m) : ∃ L', L' = L := ⟨L, rfl⟩
noncomputable def NsObj (C : Addr) (oC : Obj) (m : Str → Option Value) : Prop := ∀ h : Heap, h.get? C = some oC → h.Ns C m
theorem ns_led {h₀ h : Heap} {L C : Addr} {oC : Obj} {m : Str → Option Value} {news : List (Addr × Obj)} (N : News h₀ L h news) (hm : (C, oC) ∈ news) (f : NsObj C oC m) : h.Ns C m := f h (N _ hm).1
theorem comp_led {h₀ h h2 : Heap} {L C : Addr} {m m2 : Str → Option Value} {news : List (Addr × Obj)} (F : Fr h₀ L h m) (N : News h₀ L h news) (up : ∀ b o, h.get? b = some o → h2.get? b = some o) (hC : h.objs.size < C) (hn : h2.Ns C m2) :
    ∃ oC, Fr h₀ L h2 m ∧ News h₀ L h2 ((C, oC) :: news) ∧ NsObj C oC m2 := by
  obtain ⟨oC, hoC, nC⟩ := PyProof.Rows.LCg.ns_obj hn
  have hL := Nat.lt_trans F.ns.lt hC
  exact ⟨oC, fr_up F up, news_cons hoC (Nat.le_trans F.above (Nat.le_of_lt hL)) (Nat.ne_of_gt hL) (news_up N up), fun h e => let ⟨es, ep, hd, r⟩ := nC; ⟨oC, es, ep, e, hd, r⟩⟩
noncomputable def Upk (g h : Heap) : Prop := ∀ b o, g.get? b = some o → h.get? b = some o
theorem newTuple_U {M : Model} {A : Around} {E : Value → Shared → Prop} {s : Shared} {g h₀ : Heap} {L : Addr} {m : Str → Option Value} {news : List (Addr × Obj)} {vs : List Value} {Q : Value → Shared → Prop} (F : Fr h₀ L s.heap m) (N : News h₀ L s.heap news) (U : Upk g s.heap)
    (h : ∀ D h', Fr h₀ L h' m → News h₀ L h' ((D, ({ cls := .type "tuple", data := .seq vs.toArray } : Obj)) :: news) → (∀ p ∈ news, p.1 < D) → Upk g h' → Q (.ref D) { s with heap := h' }) (hz : vs.length ≤ sizeLine) : wpAny M A (newTuple vs) Q E s :=
  wpAny_newObj_type (h _ _ (F.push _) (N.push F _) (fun p hp => Heap.lt_size (N p hp).1) fun b o e => Heap.get?_push_of_some _ (U b o e)) (by show vs.toArray.size ≤ sizeLine; rw [List.size_toArray]; exact hz)
end
section
noncomputable def ltL : List Int → List Int → Bool
  | [], [] => false
  | [], _ :: _ => true
  | _ :: _, [] => false
  | a :: x, b :: y => if a == b then ltL x y else decide (a < b)
theorem intsAre_length {vs : List Value} {ns : List Int} (hv : IntsAre vs ns) : vs.length = ns.length := by
  induction hv with
  | nil => rfl
  | cons n t _ ih => exact congrArg Nat.succ ih
theorem intsAre_get {vs : List Value} {ns : List Int} (hs : IntsAre vs ns) : ∀ {i : Nat} {v : Value}, vs[i]? = some v → (Ex2 fun n t => ns[i]? = some n ∧ v = .int n t) := by
  induction hs with
  | nil => intro i v h; rw [List.getElem?_nil] at h; cases h
  | cons n t r ih =>
    intro i v h
    cases i with
    | zero => exact ⟨_, _, rfl, (Option.some.inj h).symm⟩
    | succ i => exact ih h
section
open PySem.AutoSeq1 (wpAny_loadPart')
open PySem.MeetsSeq PySem.MeetsSeq2 PySem.MeetsSeq3 PySem.SeqRoads2 PySem.SeqAt
theorem lt_loopAt (l b : Addr) (vs vs2 : List Value) (as bs : List Int) (n n2 : Nat) (dd dd2 : Option Addr) (sl sl2 : Array (Option Value)) (hA : IntsAre vs as) (hB : IntsAre vs2 bs) (hsz : as.length = bs.length) (k : Nat) :
    ∀ i : Nat, as.length - i = k → Meets (Builtin.«list.__eq__.loop» ⟨[.ref l, .ref b, rawInt i, rawInt 0], []⟩)
      (fun A R s => s.heap.get? l = some { cls := .type "list", dict := dd, data := .seq vs.toArray n, slots := sl } ∧ s.heap.get? b = some { cls := .type "list", dict := dd2, data := .seq vs2.toArray n2, slots := sl2 } ∧
        R (.ok (.ret (.bool (ltL (as.drop i) (bs.drop i))))) s) := by
  have lA := intsAre_length hA
  have lB := intsAre_length hB
  induction k with
  | zero =>
    intro i hk prog w A R s h
    obtain ⟨hp, g, d, tk, os⟩ := s; obtain ⟨hl, hb, h⟩ := h
    wp_walk using wpAny_loadPart' hl, wpAny_loadPart' hb
    have hi1 : vs.toArray[((i : Nat) : Int).toNat]? = none := by simp; omega
    have hi2 : vs2.toArray[((i : Nat) : Int).toNat]? = none := by simp; omega
    have hd1 : as.drop i = [] := by simp; omega
    have hd2 : bs.drop i = [] := by simp; omega
    rw [hd1, hd2] at h
    rw [hi1, hi2]
    wp_walk using wpAny_loadPart' hl, wpAny_loadPart' hb
    show R (.ok (.ret (.bool (decide (vs.toArray.size < vs2.toArray.size))))) _
    have : ¬ vs.toArray.size < vs2.toArray.size := by simp; omega
    rw [decide_eq_false this]
    exact h
  | succ k ih =>
    intro i hk prog w A R s h
    obtain ⟨hp, g, d, tk, os⟩ := s; obtain ⟨hl, hb, h⟩ := h
    wp_walk using wpAny_loadPart' hl, wpAny_loadPart' hb
    have hlt : i < as.length := by omega
    have hlt2 : i < bs.length := by omega
    have hv1 : vs[i]? = some (vs[i]'(by omega)) := List.getElem?_eq_getElem _
    have hv2 : vs2[i]? = some (vs2[i]'(by omega)) := List.getElem?_eq_getElem _
    obtain ⟨x, tx, hx, ex⟩ := intsAre_get hA hv1
    obtain ⟨y, ty, hy, ey⟩ := intsAre_get hB hv2
    rw [ex] at hv1
    rw [ey] at hv2
    have hi1 : vs.toArray[((i : Nat) : Int).toNat]? = some (.int x tx) := by simpa using hv1
    have hi2 : vs2.toArray[((i : Nat) : Int).toNat]? = some (.int y ty) := by simpa using hv2
    have hd1 : as.drop i = x :: as.drop (i + 1) := by rw [List.drop_eq_getElem_cons hlt]; congr 1; rw [List.getElem?_eq_getElem hlt] at hx; exact Option.some.inj hx
    have hd2 : bs.drop i = y :: bs.drop (i + 1) := by rw [List.drop_eq_getElem_cons hlt2]; congr 1; rw [List.getElem?_eq_getElem hlt2] at hy; exact Option.some.inj hy
    have hc : ((i : Int) + 1) = ((i + 1 : Nat) : Int) := by push_cast; rfl
    rw [hd1, hd2] at h
    unfold ltL at h
    rw [hi1, hi2]
    refine wpAny_bind (EqAt.int_int x tx y ty prog w _ _ ?_)
    cases hb' : x == y with
    | true =>
      rw [hb', if_pos rfl] at h
      wp_walk
      rw [hc]
      exact ⟨plainId_quiet plain_eq_loop _, codeAny_builtin entry_eq_loop (by
        rw [Around.under_plainId plain_eq_loop _]
        exact ih (i + 1) (by rw [Nat.sub_add_eq, hk]; rfl) prog w A R _ ⟨hl, hb, h⟩)⟩
    | false =>
      rw [hb', if_neg (by decide)] at h
      wp_walk using wpAny_loadPart' hl, wpAny_loadPart' hb
      rw [hi1, hi2]
      refine wpAny_bind ?_
      show wpAny _ _ (compareOp .Lt (.int x tx) (.int y ty)) _ _ _
      refine PyProof.Rows.lt_int ?_
      wp_walk
      exact h
theorem list_ltAt (l b : Addr) (vs vs2 : List Value) (as bs : List Int) (n n2 : Nat) (dd dd2 : Option Addr) (sl sl2 : Array (Option Value)) (hA : IntsAre vs as) (hB : IntsAre vs2 bs) (hsz : as.length = bs.length) :
    Meets (Builtin.«list.__lt__» ⟨[.ref l, .ref b], []⟩)
      (fun A R s => s.heap.get? l = some { cls := .type "list", dict := dd, data := .seq vs.toArray n, slots := sl } ∧ s.heap.get? b = some { cls := .type "list", dict := dd2, data := .seq vs2.toArray n2, slots := sl2 } ∧
        R (.ok (.ret (.bool (ltL as bs)))) s) := by
  intro prog w A R s h
  obtain ⟨hp, g, d, tk, os⟩ := s; obtain ⟨hl, hb, h⟩ := h
  have f3 := AutoSeq1.sub_list_list
  wp_walk using wpAny_loadPart' hl, wpAny_loadPart' hb
  exact ⟨plainId_quiet plain_eq_loop _, codeAny_builtin entry_eq_loop (by
    rw [Around.under_plainId plain_eq_loop _]
    exact lt_loopAt l b vs vs2 as bs n n2 dd dd2 sl sl2 hA hB hsz _ 0 rfl prog w A R _ ⟨hl, hb, h⟩)⟩
theorem lt_list_ints {prog : Program} {w : World} {A : Around} {E : Value → Shared → Prop} {s : Shared} {l b : Addr} {vs vs2 : List Value} {as bs : List Int} {Q : Value → Shared → Prop} (hl : s.heap.IsList l vs.toArray) (hb : s.heap.IsList b vs2.toArray) (hA : IntsAre vs as) (hB : IntsAre vs2 bs)
    (hsz : as.length = bs.length) (hu : A.units < cLine) (h : Q (.bool (ltL as bs)) s) : wpAny (model prog w) A (compareOp .Lt (.ref l) (.ref b)) Q E s := by
  obtain ⟨⟨cls, dd, data, sl⟩, ho, hc, n, hd⟩ := id hl
  obtain ⟨⟨cls2, dd2, data2, sl2⟩, ho2, hc2, n2, hd2⟩ := id hb
  simp only at hc hd hc2 hd2
  subst hc hd hc2 hd2
  exact richCompare_meets_room (op := .Lt) ⟨_, ho, rfl⟩ ⟨_, ho2, rfl⟩ F.slot_list_lt F.entry_list_lt (F.args_list_lt_2 _ _) (list_ltAt l b vs vs2 as bs n n2 dd dd2 sl sl2 hA hB hsz)
    ⟨ho, ho2, show Value.bool (ltL as bs) ≠ Value.notImplemented ∧ Q (.bool (ltL as bs)) s from ⟨(fun x => nomatch x), h⟩⟩ hu
end
theorem intsAre_append {vs ws : List Value} {xs ys : List Int} (hv : IntsAre vs xs) (hw : IntsAre ws ys) : IntsAre (vs ++ ws) (xs ++ ys) := by
  induction hv with
  | nil => exact hw
  | cons y t _ ih => exact .cons y t ih
end
section
section
variable {prog : Program} {w : World} {A : Around} {E : Value → Shared → Prop} {R : Result → Shared → Prop} {s : Shared} {env : Env}
noncomputable def IvC (C : Addr) (h : Heap) : Prop := (∃ m, h.Ns C m) ∧ ∃ v, h.IsCell (C + 1) v
theorem IvC.up {C : Addr} {h h' : Heap} (x : IvC C h) (k : ∀ b, (b = C ∨ b = C + 1) → ∀ o, h.get? b = some o → h'.get? b = some o) : IvC C h' := by
  obtain ⟨⟨m, hn⟩, v, o, ho, hd⟩ := x
  exact ⟨⟨m, hn.at' (k C (.inl rfl))⟩, v, o, k _ (.inr rfl) o ho, hd⟩
noncomputable def LcEnd1 (F : Nat → Option Value → Heap → Prop) (i : Nat) (C : Addr) (s₁ : Shared) (o : Option Value) (s₅ : Shared) : Prop :=
  F i o s₅.heap ∧ (Ex2 fun h' tk' => Al3 (s₅ = { s₁ with heap := h', toks := tk' }) (IvC C h') (∀ b o, b ≠ C → b ≠ C + 1 → s₁.heap.get? b = some o → h'.get? b = some o))
noncomputable def LcTurn1 (prog : Program) (w : World) (A : Around) (target elt : Expr) (ifs : List Expr) (cenv : Env) (F : Nat → Option Value → Heap → Prop) (i : Nat) (v : Value) (E' : Value → Shared → Prop) (s₁ : Shared) : Prop :=
  wpAny (model prog w) A (assign target cenv v) (fun _ s₃ => wpAny (model prog w) A (TestsOf prog w ifs cenv) (fun ok s₄ =>
    if ok = true then wpAny (model prog w) A (eval elt cenv) (fun y s₅ => LcEnd1 F i cenv.locals s₁ (some y) s₅) E' s₄ else LcEnd1 F i cenv.locals s₁ none s₄) E' s₃) E' s₁

theorem lc_walk1 {elt target iter : Expr} {ifs : List Expr} {scope : Scope} {pos : Pos} {I D : Addr} {fp wr : List Addr} {n : Nat} {P Md : Nat → Value → Heap → Prop} {St : Nat → Heap → Prop}
    {cenv : Env} (W : KTurns prog w A target I fp wr n P Md St) (F : Nat → Option Value → Heap → Prop)
    (stab : ∀ i o h h', (∀ b x, cenv.locals + 1 < b → h.get? b = some x → h'.get? b = some x) → F i o h → F i o h')
    (hDC : D < cenv.locals) (hDf : D ∉ fp) (hCf : ∀ b ∈ fp, b < cenv.locals)
    (hst : St 0 s.heap) (hacc : s.heap.PlainList D #[]) (hn : IvC cenv.locals s.heap)
    (turn : ∀ i v h₁ tk₁, i < n → P i v h₁ → IvC cenv.locals h₁ → (∀ b o, b ≠ cenv.locals → b ≠ cenv.locals + 1 → b ∉ wr → b ≠ D → s.heap.get? b = some o → h₁.get? b = some o) →
      LcTurn1 prog w A target elt ifs cenv F i v (notedBy (model prog w) A cenv fun e s' => R (.error e) s') { s with heap := h₁, toks := tk₁ })
    (hR : ∀ h' tk vs, IvC cenv.locals h' → h'.PlainList D (List.toArray vs) → GotN F h' n vs → (∀ b o, b ≠ cenv.locals → b ≠ cenv.locals + 1 → b ∉ wr → b ≠ D → s.heap.get? b = some o → h'.get? b = some o) → R (.ok .next) { s with heap := h', toks := tk })
    (hsz : n ≤ sizeLine) :
    codeAny (model prog w) A (.compLoop (.ListComp elt [⟨target, iter, ifs, 0⟩] scope pos) 0 (.ref I) (.ref D) cenv) R s := by
  have hDCn : D ≠ cenv.locals := Nat.ne_of_lt hDC
  have hDC1 : D ≠ cenv.locals + 1 := Nat.ne_of_lt (Nat.lt_succ_of_lt hDC)
  refine lc_loop
    (fun k s' => (Ex4 fun h' tk vs i => Al5 (s' = { s with heap := h', toks := tk }) (St i h') (h'.PlainList D (List.toArray vs)) (IvC cenv.locals h') (Al4 (GotN F h' i vs) (i ≤ n) (k = n + 1 - i) (∀ b o, b ≠ cenv.locals → b ≠ cenv.locals + 1 → b ∉ wr → b ≠ D → s.heap.get? b = some o → h'.get? b = some o)))) ?_ (n + 1)
    ⟨s.heap, s.toks, [], 0, rfl, hst, hacc, hn, .nil, Nat.zero_le _, rfl, fun _ _ _ _ _ _ e => e⟩
  rintro k s' ⟨H, tk, vs, i, rfl, hst', hacc', hn', hF, hi, rfl, hk⟩
  have hCw : ∀ b, (b = cenv.locals ∨ b = cenv.locals + 1) → b ∉ wr := fun b hb h => by
    have := hCf _ (W.sub _ h)
    rcases hb with rfl | rfl
    · exact Nat.lt_irrefl _ this
    · exact Nat.lt_irrefl _ (Nat.lt_of_succ_lt this)
  have hDw : D ∉ wr := fun h => hDf (W.sub _ h)
  have hiw : ∀ b, cenv.locals + 1 < b → b ∉ wr := fun b hb h => Nat.lt_irrefl _ (Nat.lt_trans hb (Nat.lt_succ_of_lt (hCf _ (W.sub _ h))))
  have hgt : ∀ b, cenv.locals + 1 < b → b ≠ cenv.locals ∧ b ≠ cenv.locals + 1 ∧ b ≠ D := fun b hb => ⟨Nat.ne_of_gt (Nat.lt_of_succ_lt hb), Nat.ne_of_gt hb, Nat.ne_of_gt (Nat.lt_trans hDC (Nat.lt_of_succ_lt hb))⟩
  have hfpn : ∀ b, b ∈ fp → b ≠ cenv.locals ∧ b ≠ cenv.locals + 1 := fun b hb => ⟨Nat.ne_of_lt (hCf b hb), Nat.ne_of_lt (Nat.lt_succ_of_lt (hCf b hb))⟩
  by_cases hlt : i < n
  · refine W.item i _ _ _ hlt hst' fun v h₁ tk₁ hMd hk₁ => ?_
    refine W.go i v _ _ _ hMd fun h₂ hP hst₂ hk₂ => ?_
    have up₂ : ∀ b o, b ∉ wr → H.get? b = some o → h₂.get? b = some o := fun b o hb x => hk₂ b o hb (hk₁ b o hb x)
    have hn₂ : IvC cenv.locals h₂ := hn'.up fun b hb o e => up₂ b o (hCw b hb) e
    have hacc₂ : h₂.PlainList D (List.toArray vs) := hacc'.at fun o e => up₂ _ o hDw e
    have hvs : vs.length ≤ sizeLine := by have := hF.length_le; omega
    refine wpAny_mono (turn i v h₂ tk₁ hlt hP hn₂ fun b o hbC hbC1 hbf hbD e => up₂ b o hbf (hk b o hbC hbC1 hbf hbD e)) (fun _ s₃ h₃ => wpAny_mono h₃ (fun ok s₄ h₄ => ?_) fun _ _ e => e) fun _ _ e => e
    cases ok with
    | false =>
      simp only [Bool.false_eq_true, if_false] at h₄ ⊢
      obtain ⟨hFi, h₅, tk₅, rfl, hn₅, hk₅⟩ := h₄
      refine ⟨n + 1 - (i + 1), Nat.sub_lt_sub_left (Nat.lt_succ_of_lt hlt) (Nat.lt_succ_self i), h₅, tk₅, vs, i + 1, rfl, ?_, hacc₂.at fun o e => hk₅ _ o hDCn hDC1 e, hn₅, .skip (hF.mono fun j o => stab j o _ _ fun b x hb e => hk₅ b x (hgt b hb).1 (hgt b hb).2.1 (up₂ b x (hiw b hb) e)) hFi, hlt, rfl,
        fun b o hbC hbC1 hbf hbD e => hk₅ b o hbC hbC1 (up₂ b o hbf (hk b o hbC hbC1 hbf hbD e))⟩
      exact W.frame _ _ h₅ hst₂ fun b hb o e => hk₅ b o (hfpn b hb).1 (hfpn b hb).2 e
    | true =>
      simp only [if_true] at h₄ ⊢
      refine wpAny_mono h₄ (fun y s₅ h₅ => ?_) fun _ _ e => e
      obtain ⟨hFi, h₅, tk₅, rfl, hn₅, hk₅⟩ := h₅
      have hacc₅ : h₅.PlainList D (List.toArray vs) := hacc₂.at fun o e => hk₅ _ o hDCn hDC1 e
      refine wpAny_list_append_plain (hsz := by simpa using hvs) hacc₅ fun h₆ hl₆ hs₆ => ?_
      refine ⟨n + 1 - (i + 1), Nat.sub_lt_sub_left (Nat.lt_succ_of_lt hlt) (Nat.lt_succ_self i), h₆, tk₅, vs ++ [y], i + 1, rfl, ?_, by simpa using hl₆, hn₅.up fun b hb o e => hs₆.extBut b o (by rcases hb with rfl | rfl; exact Ne.symm hDCn; exact Ne.symm hDC1) e,
        .keep (hF.mono fun j o => stab j o _ _ fun b x hb e => hs₆.extBut b x (hgt b hb).2.2 (hk₅ b x (hgt b hb).1 (hgt b hb).2.1 (up₂ b x (hiw b hb) e)))
        (stab _ _ _ _ (fun b x hb e => hs₆.extBut b x (hgt b hb).2.2 e) hFi), hlt, rfl,
        fun b o hbC hbC1 hbf hbD e => hs₆.extBut b o hbD (hk₅ b o hbC hbC1 (up₂ b o hbf (hk b o hbC hbC1 hbf hbD e)))⟩
      exact W.frame _ _ h₆ hst₂ fun b hb o e => hs₆.extBut b o (fun h => hDf (h ▸ hb)) (hk₅ b o (hfpn b hb).1 (hfpn b hb).2 e)
  · have hin : i = n := by omega
    subst hin
    refine W.done _ _ _ hst' fun h₁ tk₁ hk₁ => ?_
    exact hR h₁ tk₁ vs (hn'.up fun b hb o e => hk₁ b o (hCw b hb) e) (hacc'.at fun o e => hk₁ _ o hDw e) (hF.mono fun j o => stab j o _ _ fun b x hb e => hk₁ b x (hiw b hb) e) fun b o hbC hbC1 hbf hbD e => hk₁ b o hbf (hk b o hbC hbC1 hbf hbD e)

theorem newCompEnv1 {M : Model} {scope : Scope} {globals : Addr} {cl : List (Str × Addr)} {qual x : Str} {outer : Env} {Q : Env → Shared → Prop}
    (hc1 : ∀ n acc, cellsFrom n scope.names acc = (x, n) :: acc) (hc2 : ∀ h : Heap, pushCells h scope.names = h.push { cls := .type "cell", data := .cell none })
    (h : Q { scope := scope, locals := s.heap.objs.size, globals := globals, cells := (x, s.heap.objs.size + 1) :: cl, qual := qual, func := none, code := outer.code, frame := outer.frame, builtins := outer.builtins }
      { s with heap := (s.heap.push { cls := .type "dict", data := .dict #[] }).push { cls := .type "cell", data := .cell none } }) :
    wpAny M A (newFunctionEnv scope globals cl [] qual none .none (some outer)) Q E s := by
  simp only [newFunctionEnv, Option.isSome_some, if_true]
  refine wpAny_bind (wpAny_alloc ?_)
  refine wpAny_bind (wpAny_layCells _ (fun name kind cells => by cases hkc : kind == NameKind.cell <;> simp [hkc]) _ _ _ _ ?_)
  rw [show ({ s with heap := s.heap.push { cls := .type "dict", data := .dict #[] } } : Shared).heap.objs.size = s.heap.objs.size + 1 from Heap.size_push .., hc1]
  dsimp only
  rw [hc2]
  simp only [List.forIn_nil]
  exact wpAny_bind (wpAny_pure (wpAny_pure h))

noncomputable def LcSrc1 (prog : Program) (w : World) (A : Around) (env : Env) (target elt : Expr) (ifs : List Expr) (scope : Scope) (x : Str) (cl : List (Str × Addr)) (F : Addr → Nat → Option Value → Heap → Prop) (Fin : Nat → List Addr → Shared → Prop) (it : Value) (s₂ : Shared) : Prop :=
  ∃ (I : Addr) (fp wr : List Addr) (n : Nat) (P Md : Nat → Value → Heap → Prop) (St : Nat → Heap → Prop), Al5 (it = .ref I) (KTurns prog w A target I fp wr n P Md St) ((∀ (s : Shared) (Q : Value → Shared → Prop) (E : Value → Shared → Prop), St 0 s.heap → Q (.ref I) s → wpAny (model prog w) A (pyIter (.ref I)) Q E s)) (n ≤ sizeLine) (Al4 (St 0 s₂.heap) ((∀ b ∈ fp, b < s₂.heap.objs.size)) ((∀ C (E' : Value → Shared → Prop) i v h₁ tk₁, s₂.heap.objs.size < C → i < n → P i v h₁ → IvC C h₁ → (∀ b o, b ∉ wr → s₂.heap.get? b = some o → h₁.get? b = some o) →
      LcTurn1 prog w A target elt ifs (compEnvC scope ((x, C + 1) :: cl) C env) (F C) i v E' { s₂ with heap := h₁, toks := tk₁ })) (Fin n wr s₂))

theorem ListComp_turns1 {elt iter target : Expr} {ifs : List Expr} {scope : Scope} {x : Str} {cl : List (Str × Addr)} {pos : Pos} {Q : Value → Shared → Prop} (F : Addr → Nat → Option Value → Heap → Prop)
    (stab : ∀ C i o h h', (∀ b x, C + 1 < b → h.get? b = some x → h'.get? b = some x) → F C i o h → F C i o h')
    (hclos : closureFor scope env = pure cl) (hc1 : ∀ n acc, cellsFrom n scope.names acc = (x, n) :: acc) (hc2 : ∀ h : Heap, pushCells h scope.names = h.push { cls := .type "cell", data := .cell none }) (hkind : scope.kind = .function)
    (hnames : ∀ y ∈ scope.names, y.2 = .local → scope.names.lookup y.1 = some .local)
    (h : wpAny (model prog w) A (eval iter env) (fun xv s₁ => wpAny (model prog w) A (pyIter xv) (fun it s₂ => LcSrc1 prog w A env target elt ifs scope x cl F (FinE F Q) it s₂) E s₁) E s)
    (hs : ∀ x, foldedSetIterable iter env x = pure x) :
    wpAny (model prog w) A (eval (.ListComp elt [⟨target, iter, ifs, 0⟩] scope pos) env) Q E s := by
  rw [eval_ListComp]
  refine wpAny_comprehension_free (use := none) rfl hs hclos hkind hnames (wpAny_mono h (fun xv s₁ h₁ => wpAny_mono h₁ (fun it s₂ h₂ => ?_) fun _ _ e => e) fun _ _ e => e)
  obtain ⟨I, fp, wr, n, P, Md, St, rfl, W, hself, hsz, hst, hfp, turn, hQ⟩ := h₂
  refine wpAny_newObj_type (newCompEnv1 hc1 hc2 ?_)
  dsimp only
  generalize hH2 : s₂.heap.push { cls := .type "list", dict := none, data := .seq ([] : List Value).toArray } = H2
  generalize hh₁ : (H2.push { cls := .type "dict", data := .dict #[] }).push { cls := .type "cell", data := .cell none } = h₁
  have hC : H2.objs.size = s₂.heap.objs.size + 1 := by rw [← hH2, Heap.size_push]
  have hDl : s₂.heap.objs.size < H2.objs.size := by rw [hC]; exact Nat.lt_succ_self _
  have below : ∀ b, b < s₂.heap.objs.size → b ≠ H2.objs.size ∧ b ≠ H2.objs.size + 1 ∧ b ≠ s₂.heap.objs.size := fun b hb => ⟨by rw [hC]; exact Nat.ne_of_lt (Nat.lt_succ_of_lt hb), by rw [hC]; exact Nat.ne_of_lt (Nat.lt_succ_of_lt (Nat.lt_succ_of_lt hb)), Nat.ne_of_lt hb⟩
  have hDf : s₂.heap.objs.size ∉ fp := fun hm => Nat.lt_irrefl _ (hfp _ hm)
  have hCf : ∀ b ∈ fp, b < H2.objs.size := fun b hm => Nat.lt_trans (hfp _ hm) hDl
  have k2 : ∀ b o, H2.get? b = some o → h₁.get? b = some o := fun b o e => hh₁ ▸ Heap.get?_push_of_some _ (Heap.get?_push_of_some _ e)
  have old : ∀ b o, s₂.heap.get? b = some o → h₁.get? b = some o := fun b o e => k2 b o (hH2 ▸ Heap.get?_push_of_some _ e)
  have hacc : h₁.PlainList s₂.heap.objs.size #[] := ⟨_, k2 _ _ (hH2 ▸ Heap.get?_push_size _ rfl)⟩
  have hiv : IvC H2.objs.size h₁ := by
    refine ⟨⟨_, (Heap.Ns.new H2 (.type "dict")).keeps fun b o e => hh₁ ▸ Heap.get?_push_of_some _ e⟩, none, ?_⟩
    have := Heap.get?_push_size (H2.push { cls := .type "dict", data := .dict #[] }) (o := { cls := .type "cell", data := .cell none }) rfl
    rw [Heap.size_push] at this
    exact ⟨_, hh₁ ▸ this, rfl⟩
  have hst₁ : St 0 h₁ := W.frame _ _ _ hst fun b _ o e => old b o e
  have fresh : ∀ a, s₂.heap.objs.size ≤ a → s₂.heap.get? a = none := fun a ha => by
    cases e : s₂.heap.get? a with
    | none => rfl
    | some o' => exact absurd (Heap.lt_size e) (Nat.not_lt.mpr ha)
  have loop : ∀ s₃ : Shared, s₃ = { s₂ with heap := h₁ } →
      codeAny (model prog w) A (.compLoop (.ListComp elt [⟨target, iter, ifs, 0⟩] scope pos) 0 (.ref I) (.ref s₂.heap.objs.size) (compEnvC scope ((x, H2.objs.size + 1) :: cl) H2.objs.size env))
        (compPost (model prog w) A E none Q (.ref s₂.heap.objs.size) H2.objs.size) s₃ := by
    rintro s₃ rfl
    refine lc_walk1 (cenv := compEnvC scope ((x, H2.objs.size + 1) :: cl) H2.objs.size env) (hsz := hsz) W (F H2.objs.size) (stab _) hDl hDf hCf hst₁ hacc hiv
      (fun i v h₁' tk₁ hi hP hn hk => turn _ _ i v h₁' tk₁ hDl hi hP hn fun b o hbf e => hk b o (below b (Heap.lt_size e)).1 (below b (Heap.lt_size e)).2.1 hbf (below b (Heap.lt_size e)).2.2 (old b o e)) fun h' tk vs hn hl hF hk => ?_
    obtain ⟨⟨m, hns⟩, _⟩ := hn
    refine ⟨m, hns, fun h'' hs'' => hQ _ H2.objs.size h'' tk vs (fresh _ (Nat.le_refl _)) (Nat.le_refl _) hDl (hl.extBut hs''.extBut (Nat.ne_of_lt hDl)) (hF.mono fun j o => stab _ j o _ _ fun b x hb e => hs''.extBut b x (Nat.ne_of_gt (Nat.lt_of_succ_lt hb)) e) fun b o hbf e =>
      hs''.extBut b o (below b (Heap.lt_size e)).1 (hk b o (below b (Heap.lt_size e)).1 (below b (Heap.lt_size e)).2.1 hbf (below b (Heap.lt_size e)).2.2 (old b o e))⟩
  exact codeAny_compStart_list (loop _ rfl) (hself _ _ _ hst₁ (loop _ rfl))

theorem lsrc_list1 {target elt : Expr} {ifs : List Expr} {scope : Scope} {x : Str} {cl : List (Str × Addr)} {F : Addr → Nat → Option Value → Heap → Prop} {Fin : Nat → List Addr → Shared → Prop} {ax : Addr} {vs : List Value} (hh : A.handled = none) (hl : s.heap.IsList ax vs.toArray) (hsz : vs.length ≤ sizeLine)
    (turn : ∀ C (E' : Value → Shared → Prop) i v h₁ tk₁, s.heap.objs.size < C → vs[i]? = some v → IvC C h₁ → (∀ b o, s.heap.get? b = some o → h₁.get? b = some o) → LcTurn1 prog w A target elt ifs (compEnvC scope ((x, C + 1) :: cl) C env) (F C) i v E' { s with heap := h₁, toks := tk₁ })
    (fin : ∀ s₂ wr, SrcOk s s₂ wr → Fin vs.length wr s₂) :
    wpAny (model prog w) A (pyIter (.ref ax)) (fun it s₂ => LcSrc1 prog w A env target elt ifs scope x cl F Fin it s₂) E s := by
  obtain ⟨lo, hax, hc, n, hd⟩ := id hl
  have hlt : ax < s.heap.objs.size := Heap.lt_size hax
  have hne : ax ≠ s.heap.objs.size := Nat.ne_of_lt hlt
  refine wpAny_pyIter_list hl ?_
  have up : ∀ b o, s.heap.get? b = some o → (s.heap.push { cls := .type "list_iterator", data := .fields #[.ref ax, .int 0 0] }).get? b = some o ∧ b ∉ [s.heap.objs.size] := fun b o e =>
    ⟨Heap.get?_push_of_some _ e, fun h => absurd (Heap.lt_size e) ((List.mem_singleton.mp h) ▸ Nat.lt_irrefl _)⟩
  refine ⟨s.heap.objs.size, _, _, _, _, _, _, rfl, KTurns.ofWalks (Walks.list hh s.heap.objs.size ax hne vs.toArray) fun i v s Q E st q => letGo_listiter st.1 q,
    fun s' Q E st q => (Walks.list hh s.heap.objs.size ax hne vs.toArray).self 0 s' Q E st q, by simpa using hsz, ⟨⟨_, Heap.get?_push_size _ rfl, rfl, rfl⟩, hl.at fun o e => Heap.get?_push_of_some _ e⟩, ?_, ?_, ?_⟩
  · intro b hb
    have hb' : b = s.heap.objs.size ∨ b = ax := by simpa using hb
    rw [Heap.size_push]
    rcases hb' with e | e
    · rw [e]; exact Nat.lt_succ_self _
    · rw [e]; exact Nat.lt_succ_of_lt hlt
  · intro C E' i v h₁ tk₁ hC _ hP hn hk
    rw [Heap.size_push] at hC
    exact turn C E' i v h₁ tk₁ (Nat.lt_of_succ_lt hC) (by simpa using hP) hn fun b o e => hk b o (up b o e).2 (up b o e).1
  · have := fin { s with heap := s.heap.push { cls := .type "list_iterator", data := .fields #[.ref ax, .int 0 0] } } [s.heap.objs.size] ⟨_, s.toks, rfl, up, by rw [Heap.size_push]; exact Nat.le_succ _⟩
    simpa using this
end
end
section
example : True := by
  k_with_none
  k_with "LeaveF" => (refine leaveF_ (by k_asm) ?_; intro kk; (try dsimp only))
  k_with "Shut" => (refine shut (by assumption) ?_; (try dsimp only))
  k_with "execs cons" => (refine shutX ?_; intro tX PX hPX)
  k_with "exec For Name Call cons nil" => (k_here; refine held ?_)
  k_with "exec For Tuple Call cons nil" => (k_here; refine held ?_)
  k_with "exec For Name Name cons nil" => (k_here; refine held ?_)
  k_with "exec For Tuple Name cons nil" => (k_here; refine held ?_)
  k_with "exec While" => (k_here; refine held ?_)
  k_with "call ref" => (k_here; (with_reducible show wpAny _ _ (call (Value.ref 21) _ _) _ _ _); refine held ?_)
  k_with "call type:enumerate" => (k_here; refine held ?_)
  trivial
theorem idx_bd {i : Nat} (h : i < 6) : -9223372036854775808 < (i : Int) - 1 ∧ (i : Int) - 1 < 9223372036854775808 ∧ -((6 : Nat) : Int) ≤ (i : Int) - 1 ∧ (i : Int) - 1 < ((6 : Nat) : Int) := by omega
set_option maxHeartbeats 16000000 in
theorem rings_spec {w : World} (x : Str) (tx : Tok) (hx : x.length = 5) (ha : (x ++ Str.ofString "f").cps.all (· < 128) = true)
   (r : Int) (hr : ringsF (signs (x ++ Str.ofString "f")) inStr (signs (x ++ Str.ofString "f")) (Str.ofString "") 0 = some r) :
   PCall w 138 [.str x tx] 8 40 (fun _ => True) (fun _ _ v => ∃ t, v = .int r t) := by
  unfold PCall
  intro p loose mean mg mb dp un gd cn cs' a ccd cl outer A₀ base h₀ L m s gS dS tS oS Q E B F X T hk hd hu hpre hret
  have hl6 : (x ++ Str.ofString "f").length = 6 := by rw [Str.length_append, hx]; rfl
  have hln : (signs (x ++ Str.ofString "f")).length = 6 := by rw [signs_length, Str.length_append, hx]; rfl
  refine wpAny_call ?_
  (refine' code_FC ?k1 ?k2 ?k3 ?k5 ?kA ?kF ?kK ?k6 ?k7 ?k8 ?k9 ?kB ?kD ?_ ?c2 ?c3 ?c4; (case kA => exact rfl); (case kF => exact rfl); (case kK => assumption); (case k1 => k_asm); (case k2 => k_asm); (case k3 => k_asm); (case k5 => k_asm); (case k6 => k_is); (case k7 => k_is); (case k8 => first | exact Nat.lt_of_le_of_lt (Nat.le_add_right _ _) (by assumption) | exact un0 (by assumption) (by decide) | exact un1 (by assumption) (by decide) | ktr_room); (case k9 => exact BindsTo.of_eq rfl); (case kB => exact rfl); (case kD => decide +kernel); (case c2 => exact rfl); (case c3 => exact rfl); (case c4 => exact rfl); k_whole; intro L' h' tk' cells' F' N' Y' B' X' T'; k_cells Y'; (try simp only [List.cons_append, List.nil_append] at N'); (try dsimp only); refine shutE ?_; intro P' E' hE' hP'; (try k_fold))
  k_steps
  all_goals repeat ((first | (unfold Kept; (with_reducible show wpAny _ _ (call (Value.ref 21) [Value.str _ _, Value.str _ _]) _ _ _); k_dflt (refine' PCall.use (concat_spec _ _ _ _ ?hx ?hy) ?k1 ?k2 ?kN ?k3 ?k4 ?k5 ?kd ?ku trivial ?_); (case hx => first | ((try simp only [Str.length_append]); omega) | decide +kernel); (case hy => first | ((try simp only [Str.length_append]); omega) | decide +kernel); (case k1 => k_asm); (case k2 => k_asm); (case kN => k_asm); (case k3 => k_asm); (case k4 => k_asm); (case k5 => first | exact rfl | assumption); (case kd => first | exact un1 (by assumption) (by decide) | exact un2 (by assumption) (by decide) | ktr_room); (case ku => first | exact un1 (by assumption) (by decide) | exact un2 (by assumption) (by decide) | ktr_units); intro vQ hQ tQ kQ pQ FQ NQ; (obtain ⟨tQ, eQ⟩ := pQ); subst eQ; (try dsimp only); (try k_fold)) | (unfold Kept; (with_reducible show wpAny _ _ (call (Value.type "enumerate") [Value.str _ _]) _ _ _); k_dflt (refine' call_enumerate_str ?_); intro hR hER hIR hzR kR; (have FR := fr_up (by k_asm) kR); (have NR := news_up (by k_asm) kR); (try dsimp only)) | (unfold Kept; (with_reducible show wpAny _ _ (exec (Stmt.For _ _ _ _ _) _) _ _ _); k_dflt (refine' For_turns ?kF ?_; (case kF => k_asm); k_whole))); k_steps)
  rename Fr _ _ _ _ => F1
  rename News _ _ _ _ => N1
  rename Obj.IsDictOf _ _ _ => hAf
  rename Obj.data _ = Data.cell _ => hCell
  rename PyProof.V.FlatPairs _ _ _ => hfp
  clear hfp
  refine Assign_DictComp_turns (cl := [("line", _)]) (strKind PR w) (FKV (signs (x ++ Str.ofString "f"))) (by with_unfolding_all rfl) (by with_unfolding_all rfl) (by decide) rfl (by decide) rfl rfl ?_ (by intro _; rfl)
  k_steps
  all_goals repeat ((first | (unfold Kept; (with_reducible show wpAny _ _ (call (Value.ref 21) [Value.str _ _, Value.str _ _]) _ _ _); k_dflt (refine' PCall.use (concat_spec _ _ _ _ ?hx ?hy) ?k1 ?k2 ?kN ?k3 ?k4 ?k5 ?kd ?ku trivial ?_); (case hx => first | ((try simp only [Str.length_append]); omega) | decide +kernel); (case hy => first | ((try simp only [Str.length_append]); omega) | decide +kernel); (case k1 => k_asm); (case k2 => k_asm); (case kN => k_asm); (case k3 => k_asm); (case k4 => k_asm); (case k5 => first | exact rfl | assumption); (case kd => first | exact un1 (by assumption) (by decide) | exact un2 (by assumption) (by decide) | ktr_room); (case ku => first | exact un1 (by assumption) (by decide) | exact un2 (by assumption) (by decide) | ktr_units); intro vQ hQ tQ kQ pQ FQ NQ; (obtain ⟨tQ, eQ⟩ := pQ); subst eQ; (try dsimp only); (try k_fold)) | (unfold Kept; (with_reducible show wpAny _ _ (call (Value.type "enumerate") [Value.str _ _]) _ _ _); k_dflt (refine' call_enumerate_str ?_); intro hR hER hIR hzR kR; (have FR := fr_up (by k_asm) kR); (have NR := news_up (by k_asm) kR); (try dsimp only)) | (unfold Kept; (with_reducible show wpAny _ _ (exec (Stmt.For _ _ _ _ _) _) _ _ _); k_dflt (refine' For_turns ?kF ?_; (case kF => k_asm); k_whole))); k_steps)
  rename IsEnum _ _ _ _ _ => hE
  rename Heap.IsStrIter _ _ _ _ _ _ => hI
  rename Fr _ _ _ _ => F2
  rename News _ _ _ _ => N2
  rename Array.size (Heap.objs _) = _ => hz
  have hty : strIterType (x ++ Str.ofString "f") = "str_ascii_iterator" := by unfold strIterType; rw [if_pos ha]
  rw [hty] at hI
  dsimp only at hE hI hz
  obtain ⟨akv, hAk, hnx⟩ := (⟨_, hAf, fun l q h => after_at _ _ _ _ _ _ _ _ _ _ _ _ l q h⟩ : ∃ akv, Obj.IsDictOf (strKind PR w) _ akv ∧ ∀ l q, nxtO l = some q → ∃ t, valueAt akv l = some (.str q t))
  clear hAf
  rename ∀ (b : Addr) (o : Obj), Heap.get? _ b = some o → Heap.get? _ b = some o => k9
  refine wpAny_pyIter_enum hE ?_
  have hLs := F1.ns.lt
  refine ⟨_, _, _, _, _, _, _, _, rfl, KTurns.ofWalksU (WalksT.enumerateD (Draws.strAscii (A := Around.in1 _) rfl _ (x ++ Str.ofString "f") _) _ (Nat.succ_ne_self _) (by simp) (by simp)).toU, ?self, ?size, ⟨⟨_, hE⟩, hI⟩, ?fp, ?hL, F2.ns, ?turn, ?done⟩
  case self => exact fun s Q E st q => by obtain ⟨⟨o, e⟩, _⟩ := st; exact wpAny_pyIter_enum e q
  case size => show (x ++ Str.ofString "f").length ≤ _; rw [Str.length_append, hx, sizeLine_eq]; decide
  case fp =>
    intro b hb
    have hb' := hb
    simp only [List.mem_cons, List.not_mem_nil, or_false] at hb'
    rcases hb' with rfl | rfl
    · rw [hz]; exact Nat.lt_succ_self _
    · rw [hz]; exact Nat.lt_succ_of_lt (Nat.lt_succ_self _)
  case hL =>
    intro hb
    have hb' := hb
    simp only [List.mem_cons, List.not_mem_nil, or_false] at hb'
    rcases hb' with e | e
    · exact Nat.ne_of_lt (Nat.lt_succ_of_lt hLs) e
    · exact Nat.ne_of_lt hLs e
  case turn =>
    rintro C E' i v h₁ tk₁ m₁ hC hi ⟨T, vals, rfl, ⟨t, y, ⟨c, u, hc, rfl⟩, rfl⟩, hT⟩ hns hkeep
    refine kcp_assign rfl hT rfl rfl rfl hns fun h2 tk2 hns2 hk2 => ?_
    refine wpAny_Name (wpAny_loadName_local rfl rfl hns2 rfl ?_) rfl
    have hl2 : ∀ b o, Heap.get? _ b = some o → h2.get? b = some o := fun b o e => hk2 b o (Nat.ne_of_lt (Nat.lt_of_lt_of_le (Heap.lt_size (k9 b o e)) hC)) (hkeep b o (fun hb => by
      have hb' := hb
      simp only [List.mem_cons, List.not_mem_nil, or_false] at hb'
      have := Heap.lt_size e
      rcases hb' with rfl | rfl
      · exact absurd this (Nat.not_lt.mpr (Nat.le_succ _))
      · exact absurd this (Nat.lt_irrefl _)) (k9 b o e))
    obtain ⟨oC, hoC, nC⟩ := PyProof.Rows.LCg.ns_obj hns2
    have F3 := fr_up F1 hl2
    have hCs : _ ≤ C := hC
    rw [hz] at hCs
    have N3 : News _ _ _ ((C, oC) :: _) := fun q hq => by
      rcases List.mem_cons.mp hq with rfl | hq
      · refine ⟨hoC, Nat.ne_of_gt (Nat.lt_of_lt_of_le (Nat.lt_of_lt_of_le hLs (Nat.le_add_right _ 2)) hCs), ?_⟩
        exact Heap.get?_none_of_le (Nat.le_trans (Nat.le_trans F1.above (Nat.le_of_lt hLs)) (Nat.le_trans (Nat.le_add_right _ 2) hCs))
      · exact news_up N1 hl2 q hq
    clear F1 F2 N1 N2
    k_steps
    all_goals repeat ((first | (unfold Kept; (with_reducible show wpAny _ _ (call (Value.ref 21) [Value.str _ _, Value.str _ _]) _ _ _); k_dflt (refine' PCall.use (concat_spec _ _ _ _ ?hx ?hy) ?k1 ?k2 ?kN ?k3 ?k4 ?k5 ?kd ?ku trivial ?_); (case hx => first | ((try simp only [Str.length_append]); omega) | decide +kernel); (case hy => first | ((try simp only [Str.length_append]); omega) | decide +kernel); (case k1 => k_asm); (case k2 => k_asm); (case kN => k_asm); (case k3 => k_asm); (case k4 => k_asm); (case k5 => first | exact rfl | assumption); (case kd => first | exact un1 (by assumption) (by decide) | exact un2 (by assumption) (by decide) | ktr_room); (case ku => first | exact un1 (by assumption) (by decide) | exact un2 (by assumption) (by decide) | ktr_units); intro vQ hQ tQ kQ pQ FQ NQ; (obtain ⟨tQ, eQ⟩ := pQ); subst eQ; (try dsimp only); (try k_fold)) | (unfold Kept; (with_reducible show wpAny _ _ (call (Value.type "enumerate") [Value.str _ _]) _ _ _); k_dflt (refine' call_enumerate_str ?_); intro hR hER hIR hzR kR; (have FR := fr_up (by k_asm) kR); (have NR := news_up (by k_asm) kR); (try dsimp only)) | (unfold Kept; (with_reducible show wpAny _ _ (exec (Stmt.For _ _ _ _ _) _) _ _ _); k_dflt (refine' For_turns ?kF ?_; (case kF => k_asm); k_whole))); k_steps)
    refine wpAny_Name (wpAny_loadName_local rfl rfl hns2 rfl ?_) rfl
    k_steps
    all_goals repeat ((first | (unfold Kept; (with_reducible show wpAny _ _ (call (Value.ref 21) [Value.str _ _, Value.str _ _]) _ _ _); k_dflt (refine' PCall.use (concat_spec _ _ _ _ ?hx ?hy) ?k1 ?k2 ?kN ?k3 ?k4 ?k5 ?kd ?ku trivial ?_); (case hx => first | ((try simp only [Str.length_append]); omega) | decide +kernel); (case hy => first | ((try simp only [Str.length_append]); omega) | decide +kernel); (case k1 => k_asm); (case k2 => k_asm); (case kN => k_asm); (case k3 => k_asm); (case k4 => k_asm); (case k5 => first | exact rfl | assumption); (case kd => first | exact un1 (by assumption) (by decide) | exact un2 (by assumption) (by decide) | ktr_room); (case ku => first | exact un1 (by assumption) (by decide) | exact un2 (by assumption) (by decide) | ktr_units); intro vQ hQ tQ kQ pQ FQ NQ; (obtain ⟨tQ, eQ⟩ := pQ); subst eQ; (try dsimp only); (try k_fold)) | (unfold Kept; (with_reducible show wpAny _ _ (call (Value.type "enumerate") [Value.str _ _]) _ _ _); k_dflt (refine' call_enumerate_str ?_); intro hR hER hIR hzR kR; (have FR := fr_up (by k_asm) kR); (have NR := news_up (by k_asm) kR); (try dsimp only)) | (unfold Kept; (with_reducible show wpAny _ _ (exec (Stmt.For _ _ _ _ _) _) _ _ _); k_dflt (refine' For_turns ?kF ?_; (case kF => k_asm); k_whole))); k_steps)
    have hi6 : i < 6 := by rw [← hl6]; exact hi
    refine item_str (fitsSsize_of (N := 9223372036854775808) (idx_bd hi6).1 (idx_bd hi6).2.1 (Int.le_refl _)) (by rw [hl6]; exact (idx_bd hi6).2.2.1) (by rw [hl6]; exact (idx_bd hi6).2.2.2) fun _ => ?_
    exact ⟨⟨⟨#[c]⟩, strKind_is _ _ _ _, signs_get hc, _, _, item_sign hl6 hi6, rfl⟩, h2, _, _, rfl, hns2, hk2⟩
  case done =>
    intro D h' tk kvs hD0 _ hDD hst hns hkeep
    have hk9' : ∀ b o, b ≠ _ → Heap.get? _ b = some o → h'.get? b = some o := fun b o hb e => hkeep b o hb (fun hb => by
      have hb' := hb
      simp only [List.mem_cons, List.not_mem_nil, or_false] at hb'
      have := Heap.lt_size e
      rcases hb' with rfl | rfl
      · exact absurd this (Nat.not_lt.mpr (Nat.le_succ _))
      · exact absurd this (Nat.lt_irrefl _)) (k9 b o e)
    have F3 : Fr _ _ h' _ := ⟨hns, fun b o e => hk9' b o (Nat.ne_of_lt (Nat.lt_of_lt_of_le (Heap.lt_size e) F1.above)) (F1.keep b o e), F1.above⟩
    have N3 : News _ _ h' _ := fun q hq => ⟨hk9' _ _ (N1 q hq).2.1 (N1 q hq).1, (N1 q hq).2⟩
    obtain ⟨oD, hoD, hoK⟩ := Heap.dictOf_iff.mp hDD
    obtain ⟨hDL, hDB⟩ := fresh_ne F2 hD0
    clear F1 F2 N1 N2
    k_steps
    all_goals repeat ((first | (unfold Kept; (with_reducible show wpAny _ _ (call (Value.ref 21) [Value.str _ _, Value.str _ _]) _ _ _); k_dflt (refine' PCall.use (concat_spec _ _ _ _ ?hx ?hy) ?k1 ?k2 ?kN ?k3 ?k4 ?k5 ?kd ?ku trivial ?_); (case hx => first | ((try simp only [Str.length_append]); omega) | decide +kernel); (case hy => first | ((try simp only [Str.length_append]); omega) | decide +kernel); (case k1 => k_asm); (case k2 => k_asm); (case kN => k_asm); (case k3 => k_asm); (case k4 => k_asm); (case k5 => first | exact rfl | assumption); (case kd => first | exact un1 (by assumption) (by decide) | exact un2 (by assumption) (by decide) | ktr_room); (case ku => first | exact un1 (by assumption) (by decide) | exact un2 (by assumption) (by decide) | ktr_units); intro vQ hQ tQ kQ pQ FQ NQ; (obtain ⟨tQ, eQ⟩ := pQ); subst eQ; (try dsimp only); (try k_fold)) | (unfold Kept; (with_reducible show wpAny _ _ (call (Value.type "enumerate") [Value.str _ _]) _ _ _); k_dflt (refine' call_enumerate_str ?_); intro hR hER hIR hzR kR; (have FR := fr_up (by k_asm) kR); (have NR := news_up (by k_asm) kR); (try dsimp only)) | (unfold Kept; (with_reducible show wpAny _ _ (exec (Stmt.For _ _ _ _ _) _) _ _ _); k_dflt (refine' For_turns ?kF ?_; (case kF => k_asm); k_whole))); k_steps)
    have N4 : News _ _ h' ((D, oD) :: _) := fun q hq => by
      rcases List.mem_cons.mp hq with rfl | hq
      · exact ⟨hoD, hDL, hDB⟩
      · exact N3 q hq
    obtain ⟨m9, afA, afO, nw, F5, N5, mD, mA, hAk5, t1, t2, hm9⟩ : (Ex4 fun m9 afA afO nw => Al5 (Fr s _ h' m9) (News s _ h' nw) ((D, oD) ∈ nw) ((afA, afO) ∈ nw) ((afO.IsDictOf (strKind PR w) akv) ∧ ((Ex2 fun t1 t2 => AllAt m9 [(Str.ofString "ahead", .ref D), (Str.ofString "after", .ref afA), (Str.ofString "rings", .int 0 t1), (Str.ofString "seen", .str (Str.ofString "") t2)])))) :=
      ⟨_, _, _, _, F3, N4, List.mem_cons_self .., List.mem_cons_of_mem _ (List.mem_cons_of_mem _ (List.mem_cons_self ..)), hAk, _, _, rfl, rfl, rfl, rfl, trivial⟩
    clear F3 N3 N4
    refine iter_strB ha rfl F5 N5 fun I hI => ?_
    refine itemsRest_indT (fun rem m news => Kept ((Ex4 fun seen ri ts tr => Al3 (news = nw) (ringsF (signs (x ++ Str.ofString "f")) inStr rem seen ri = some r) (AllAt m [(Str.ofString "ahead", .ref D), (Str.ofString "after", .ref afA), (Str.ofString "rings", .int ri tr), (Str.ofString "seen", .str seen ts)])))) ?step ?done _ _ ⟨_, _, _, _, rfl, hr, hm9⟩
    case step =>
      rintro l rest m news ⟨seen, ri, ts, tr, hnw, hrr, hm⟩ t h tk F₁
      refine AllObj.cons fun o ho => AllObj.nil fun N₁ P1 hP1 => ?_
      rw [hnw] at N₁
      have F₁ := fr_over F₁ _ hm
      dsimp only [over] at F₁
      dsimp only at ho
      dsimp only [List.cons_append, List.nil_append] at N₁
      obtain ⟨s', hrf, hT, hF⟩ := ringsF_step hrr
      have hT' := fun e : (Builtin.Str.occurrences seen l 0 seen.length 1).isEmpty = false => hT (by unfold inStr; rw [e]; rfl)
      have hF' := fun e : (Builtin.Str.occurrences seen l 0 seen.length 1).isEmpty = true => hF (by unfold inStr; rw [e]; rfl)
      k_steps
      all_goals repeat ((first | (unfold Kept; (with_reducible show wpAny _ _ (call (Value.ref 21) [Value.str _ _, Value.str _ _]) _ _ _); k_dflt (refine' PCall.use (concat_spec _ _ _ _ ?hx ?hy) ?k1 ?k2 ?kN ?k3 ?k4 ?k5 ?kd ?ku trivial ?_); (case hx => first | ((try simp only [Str.length_append]); omega) | decide +kernel); (case hy => first | ((try simp only [Str.length_append]); omega) | decide +kernel); (case k1 => k_asm); (case k2 => k_asm); (case kN => k_asm); (case k3 => k_asm); (case k4 => k_asm); (case k5 => first | exact rfl | assumption); (case kd => first | exact un1 (by assumption) (by decide) | exact un2 (by assumption) (by decide) | ktr_room); (case ku => first | exact un1 (by assumption) (by decide) | exact un2 (by assumption) (by decide) | ktr_units); intro vQ hQ tQ kQ pQ FQ NQ; (obtain ⟨tQ, eQ⟩ := pQ); subst eQ; (try dsimp only); (try k_fold)) | (unfold Kept; (with_reducible show wpAny _ _ (call (Value.type "enumerate") [Value.str _ _]) _ _ _); k_dflt (refine' call_enumerate_str ?_); intro hR hER hIR hzR kR; (have FR := fr_up (by k_asm) kR); (have NR := news_up (by k_asm) kR); (try dsimp only)) | (unfold Kept; (with_reducible show wpAny _ _ (exec (Stmt.For _ _ _ _ _) _) _ _ _); k_dflt (refine' For_turns ?kF ?_; (case kF => k_asm); k_whole))); k_steps)
      all_goals
        rename Fr _ _ _ _ => F6
        obtain ⟨m6, F7, t3, tr, ri2, hm6, hr2⟩ : ∃ m6, Fr s _ _ m6 ∧ (Ex3 fun t3 tr ri2 => AllAt m6 [(Str.ofString "ahead", .ref D), (Str.ofString "after", .ref afA), (Str.ofString "rings", .int ri2 tr), (Str.ofString "seen", .str seen ts), (Str.ofString "letter", .str l t3)] ∧ ringsF (signs (x ++ Str.ofString "f")) inStr rest s' ri2 = some r) :=
          ⟨_, F6, _, _, _, ⟨rfl, rfl, rfl, rfl, rfl, trivial⟩, by first | exact hT' (by assumption) | exact hF' (by assumption)⟩
        unfold Kept
        refine While_inv2 (fun n m₁ nx => Kept (nx = (I, o) :: nw ∧ (Ex4 fun seen2 l2 ts2 tl2 => ringF (signs (x ++ Str.ofString "f")) inStr n seen2 l2 = some s' ∧ AllAt m₁ [(Str.ofString "ahead", .ref D), (Str.ofString "after", .ref afA), (Str.ofString "rings", .int ri2 tr), (Str.ofString "seen", .str seen2 ts2), (Str.ofString "letter", .str l2 tl2)]))) F7 (by assumption) ⟨rfl, _, _, _, _, hrf, hm6⟩ ?_
        clear F₁ F6 F7 N₁
        rintro n m₁ nx h₁ tk₁ F₁ N₁ ⟨rfl, seen2, l2, ts2, tl2, hrf2, hm2⟩
        have F₁ := fr_over F₁ _ hm2
        dsimp only [over] at F₁
        k_steps
        all_goals repeat ((first | (unfold Kept; (with_reducible show wpAny _ _ (call (Value.ref 21) [Value.str _ _, Value.str _ _]) _ _ _); k_dflt (refine' PCall.use (concat_spec _ _ _ _ ?hx ?hy) ?k1 ?k2 ?kN ?k3 ?k4 ?k5 ?kd ?ku trivial ?_); (case hx => first | ((try simp only [Str.length_append]); omega) | decide +kernel); (case hy => first | ((try simp only [Str.length_append]); omega) | decide +kernel); (case k1 => k_asm); (case k2 => k_asm); (case kN => k_asm); (case k3 => k_asm); (case k4 => k_asm); (case k5 => first | exact rfl | assumption); (case kd => first | exact un1 (by assumption) (by decide) | exact un2 (by assumption) (by decide) | ktr_room); (case ku => first | exact un1 (by assumption) (by decide) | exact un2 (by assumption) (by decide) | ktr_units); intro vQ hQ tQ kQ pQ FQ NQ; (obtain ⟨tQ, eQ⟩ := pQ); subst eQ; (try dsimp only); (try k_fold)) | (unfold Kept; (with_reducible show wpAny _ _ (call (Value.type "enumerate") [Value.str _ _]) _ _ _); k_dflt (refine' call_enumerate_str ?_); intro hR hER hIR hzR kR; (have FR := fr_up (by k_asm) kR); (have NR := news_up (by k_asm) kR); (try dsimp only)) | (unfold Kept; (with_reducible show wpAny _ _ (exec (Stmt.For _ _ _ _ _) _) _ _ _); k_dflt (refine' For_turns ?kF ?_; (case kF => k_asm); k_whole))); k_steps)
        · rcases ringF_step hrf2 with ⟨hi, _⟩ | ⟨hi, hl1, hl2, f, k, q, rfl, hk, hq, hrf3⟩
          · unfold inStr at hi
            rename (Builtin.Str.occurrences seen2 l2 0 seen2.length 1).isEmpty = true => hc
            rw [hc] at hi; cases hi
          · k_steps
            all_goals repeat ((first | (unfold Kept; (with_reducible show wpAny _ _ (call (Value.ref 21) [Value.str _ _, Value.str _ _]) _ _ _); k_dflt (refine' PCall.use (concat_spec _ _ _ _ ?hx ?hy) ?k1 ?k2 ?kN ?k3 ?k4 ?k5 ?kd ?ku trivial ?_); (case hx => first | ((try simp only [Str.length_append]); omega) | decide +kernel); (case hy => first | ((try simp only [Str.length_append]); omega) | decide +kernel); (case k1 => k_asm); (case k2 => k_asm); (case kN => k_asm); (case k3 => k_asm); (case k4 => k_asm); (case k5 => first | exact rfl | assumption); (case kd => first | exact un1 (by assumption) (by decide) | exact un2 (by assumption) (by decide) | ktr_room); (case ku => first | exact un1 (by assumption) (by decide) | exact un2 (by assumption) (by decide) | ktr_units); intro vQ hQ tQ kQ pQ FQ NQ; (obtain ⟨tQ, eQ⟩ := pQ); subst eQ; (try dsimp only); (try k_fold)) | (unfold Kept; (with_reducible show wpAny _ _ (call (Value.type "enumerate") [Value.str _ _]) _ _ _); k_dflt (refine' call_enumerate_str ?_); intro hR hER hIR hzR kR; (have FR := fr_up (by k_asm) kR); (have NR := news_up (by k_asm) kR); (try dsimp only)) | (unfold Kept; (with_reducible show wpAny _ _ (exec (Stmt.For _ _ _ _ _) _) _ _ _); k_dflt (refine' For_turns ?kF ?_; (case kF => k_asm); k_whole))); k_steps)
            obtain ⟨tk, hvk⟩ := hnx _ _ hk
            refine kda_item (knd := strKind PR w) (by k_asm) (List.mem_cons_of_mem _ mA) hAk5 (strKind_is _ _ _ _) hvk ?_
            k_steps
            all_goals repeat ((first | (unfold Kept; (with_reducible show wpAny _ _ (call (Value.ref 21) [Value.str _ _, Value.str _ _]) _ _ _); k_dflt (refine' PCall.use (concat_spec _ _ _ _ ?hx ?hy) ?k1 ?k2 ?kN ?k3 ?k4 ?k5 ?kd ?ku trivial ?_); (case hx => first | ((try simp only [Str.length_append]); omega) | decide +kernel); (case hy => first | ((try simp only [Str.length_append]); omega) | decide +kernel); (case k1 => k_asm); (case k2 => k_asm); (case kN => k_asm); (case k3 => k_asm); (case k4 => k_asm); (case k5 => first | exact rfl | assumption); (case kd => first | exact un1 (by assumption) (by decide) | exact un2 (by assumption) (by decide) | ktr_room); (case ku => first | exact un1 (by assumption) (by decide) | exact un2 (by assumption) (by decide) | ktr_units); intro vQ hQ tQ kQ pQ FQ NQ; (obtain ⟨tQ, eQ⟩ := pQ); subst eQ; (try dsimp only); (try k_fold)) | (unfold Kept; (with_reducible show wpAny _ _ (call (Value.type "enumerate") [Value.str _ _]) _ _ _); k_dflt (refine' call_enumerate_str ?_); intro hR hER hIR hzR kR; (have FR := fr_up (by k_asm) kR); (have NR := news_up (by k_asm) kR); (try dsimp only)) | (unfold Kept; (with_reducible show wpAny _ _ (exec (Stmt.For _ _ _ _ _) _) _ _ _); k_dflt (refine' For_turns ?kF ?_; (case kF => k_asm); k_whole))); k_steps)
            obtain ⟨tq, hvq⟩ := ahead_at ((show (x ++ Str.ofString "f").cps.size = 6 from hl6) ▸ hst) _ _ hq
            refine kda_item (knd := strKind PR w) (by k_asm) (List.mem_cons_of_mem _ mD) hoK (strKind_is _ _ _ _) hvq ?_
            k_steps
            all_goals repeat ((first | (unfold Kept; (with_reducible show wpAny _ _ (call (Value.ref 21) [Value.str _ _, Value.str _ _]) _ _ _); k_dflt (refine' PCall.use (concat_spec _ _ _ _ ?hx ?hy) ?k1 ?k2 ?kN ?k3 ?k4 ?k5 ?kd ?ku trivial ?_); (case hx => first | ((try simp only [Str.length_append]); omega) | decide +kernel); (case hy => first | ((try simp only [Str.length_append]); omega) | decide +kernel); (case k1 => k_asm); (case k2 => k_asm); (case kN => k_asm); (case k3 => k_asm); (case k4 => k_asm); (case k5 => first | exact rfl | assumption); (case kd => first | exact un1 (by assumption) (by decide) | exact un2 (by assumption) (by decide) | ktr_room); (case ku => first | exact un1 (by assumption) (by decide) | exact un2 (by assumption) (by decide) | ktr_units); intro vQ hQ tQ kQ pQ FQ NQ; (obtain ⟨tQ, eQ⟩ := pQ); subst eQ; (try dsimp only); (try k_fold)) | (unfold Kept; (with_reducible show wpAny _ _ (call (Value.type "enumerate") [Value.str _ _]) _ _ _); k_dflt (refine' call_enumerate_str ?_); intro hR hER hIR hzR kR; (have FR := fr_up (by k_asm) kR); (have NR := news_up (by k_asm) kR); (try dsimp only)) | (unfold Kept; (with_reducible show wpAny _ _ (exec (Stmt.For _ _ _ _ _) _) _ _ _); k_dflt (refine' For_turns ?kF ?_; (case kF => k_asm); k_whole))); k_steps)
            exact ⟨_, _, _, _, _, rfl, by assumption, by assumption, Nat.lt_succ_self _, rfl, _, _, _, _, hrf3, rfl, rfl, rfl, rfl, rfl, trivial⟩
        · rcases ringF_step hrf2 with ⟨hi, e⟩ | ⟨hi, _⟩
          · subst e
            rename Fr _ _ _ _ => F8
            exact ⟨_, _, _, _, rfl, F8, by assumption, fun p hp q hq => by rw [List.mem_singleton.mp hq]; exact Nat.ne_of_lt (hI p hp), trivial, _, _, _, _, rfl, hr2, rfl, rfl, rfl, rfl, trivial⟩
          · unfold inStr at hi
            rename (Builtin.Str.occurrences seen2 l2 0 seen2.length 1).isEmpty = false => hc
            rw [hc] at hi; cases hi
    case done =>
      rintro m news ⟨seen, ri, ts, tr, rfl, hrr, hm⟩ h tk F₁ N₁
      have F₁ := fr_over F₁ _ hm
      dsimp only [over] at F₁
      dsimp only
      cases hrr
      k_steps
      all_goals repeat ((first | (unfold Kept; (with_reducible show wpAny _ _ (call (Value.ref 21) [Value.str _ _, Value.str _ _]) _ _ _); k_dflt (refine' PCall.use (concat_spec _ _ _ _ ?hx ?hy) ?k1 ?k2 ?kN ?k3 ?k4 ?k5 ?kd ?ku trivial ?_); (case hx => first | ((try simp only [Str.length_append]); omega) | decide +kernel); (case hy => first | ((try simp only [Str.length_append]); omega) | decide +kernel); (case k1 => k_asm); (case k2 => k_asm); (case kN => k_asm); (case k3 => k_asm); (case k4 => k_asm); (case k5 => first | exact rfl | assumption); (case kd => first | exact un1 (by assumption) (by decide) | exact un2 (by assumption) (by decide) | ktr_room); (case ku => first | exact un1 (by assumption) (by decide) | exact un2 (by assumption) (by decide) | ktr_units); intro vQ hQ tQ kQ pQ FQ NQ; (obtain ⟨tQ, eQ⟩ := pQ); subst eQ; (try dsimp only); (try k_fold)) | (unfold Kept; (with_reducible show wpAny _ _ (call (Value.type "enumerate") [Value.str _ _]) _ _ _); k_dflt (refine' call_enumerate_str ?_); intro hR hER hIR hzR kR; (have FR := fr_up (by k_asm) kR); (have NR := news_up (by k_asm) kR); (try dsimp only)) | (unfold Kept; (with_reducible show wpAny _ _ (exec (Stmt.For _ _ _ _ _) _) _ _ _); k_dflt (refine' For_turns ?kF ?_; (case kF => k_asm); k_whole))); k_steps)
      exact hret _ _ _ (by assumption) ⟨_, rfl⟩
end
section
example : True := by
  k_with_none
  k_with "LeaveF" => (refine leaveF_ (by k_asm) ?_; intro kk; (try dsimp only))
  k_with "Shut" => (refine shut (by assumption) ?_; (try dsimp only))
  k_with "execs cons" => (refine shutX ?_; intro tX PX hPX)
  k_with "exec For Name Call cons nil" => (k_here; refine held ?_)
  k_with "exec For Tuple Call cons nil" => (k_here; refine held ?_)
  k_with "exec For Name Name cons nil" => (k_here; refine held ?_)
  k_with "exec For Tuple Name cons nil" => (k_here; refine held ?_)
  k_with "exec While" => (k_here; refine held ?_)
  k_with "eval ListComp" => (k_here; refine held ?_)
  trivial
noncomputable abbrev Row := Int × Int × Int × Int
noncomputable def RowAt (h : Heap) (v : Value) (q : Row) : Prop := (Ex5 fun T t1 t2 t3 t4 => v = .ref T ∧ IsTup h T #[.int q.1 t1, .int q.2.1 t2, .int q.2.2.1 t3, .int q.2.2.2 t4])
noncomputable def KeyAt (h : Heap) (v : Value) (q : Int × Int) : Prop := (Ex3 fun T t1 t2 => v = .ref T ∧ IsTup h T #[.int q.1 t1, .int q.2 t2])
noncomputable def ListedAt {α : Type} (F : Heap → Value → α → Prop) (h : Heap) (c : Addr) (cs : List α) : Prop := ∃ vs : List Value, h.IsList c vs.toArray ∧ Paired (F h) vs cs
theorem col_bd {z : Int} (h : z = 0 ∨ z = 1 ∨ z = 2 ∨ z = 3) : -2 ^ 63 ≤ z ∧ z < 2 ^ 63 := by rcases h with rfl | rfl | rfl | rfl <;> decide
theorem paired_get {α β : Type} {F : α → β → Prop} {l : List α} {r : List β} (hp : Paired F l r) : ∀ {i : Nat} {v : α}, l[i]? = some v → ∃ q, r[i]? = some q ∧ F v q := by
  induction hp with
  | nil => intro i v h; rw [List.getElem?_nil] at h; cases h
  | cons f r ih =>
    intro i v h
    cases i with
    | zero => exact ⟨_, rfl, (Option.some.inj h) ▸ f⟩
    | succ i => exact ih h
noncomputable def rowGet (q : Row) (c : Int) : Int := if c = 0 then q.1 else if c = 1 then q.2.1 else if c = 2 then q.2.2.1 else q.2.2.2
noncomputable def rankOf (keys : List (Int × Int)) (q : Row) : List Int := keys.map fun k => rowGet q k.1 * k.2
noncomputable def RankF (keys : List (Int × Int)) (rows : List Row) (C : Addr) (i : Nat) (o : Option Value) (h : Heap) : Prop :=
  (Ex3 fun T vs q => Al5 (rows[i]? = some q) (o = some (.ref T)) (C + 1 < T) (h.PlainList T (List.toArray vs)) (IntsAre vs (rankOf keys q)))
noncomputable def ProdF (keys : List (Int × Int)) (q : Row) (_ : Addr) (i : Nat) (o : Option Value) (_ : Heap) : Prop :=
  (Ex2 fun k t => keys[i]? = some k ∧ o = some (.int (rowGet q k.1 * k.2) t))
theorem prodF_list {keys : List (Int × Int)} {q : Row} {C : Addr} {h : Heap} : ∀ {n vs}, GotN (ProdF keys q C) h n vs → n ≤ keys.length → IntsAre vs (rankOf (keys.take n) q) := by
  intro n vs g
  induction g with
  | nil => intro _; exact .nil
  | @keep i vs y _ f ih =>
    intro hn
    obtain ⟨k, t, hk, e⟩ := f
    cases e
    have e2 : keys.take (i + 1) = keys.take i ++ [k] := by rw [List.take_add_one, hk]; rfl
    rw [e2]; unfold rankOf; rw [List.map_append]
    exact intsAre_append (ih (by omega)) (.cons _ _ .nil)
  | skip _ f _ => obtain ⟨_, _, _, e⟩ := f; cases e
theorem row_item (q : Row) {c : Int} (h : c = 0 ∨ c = 1 ∨ c = 2 ∨ c = 3) (t1 t2 t3 t4 : Tok) :
    (Ex2 fun j t => seqIndex? c 4 = some j ∧ (#[Value.int q.1 t1, .int q.2.1 t2, .int q.2.2.1 t3, .int q.2.2.2 t4] : Array Value)[j]? = some (.int (rowGet q c) t)) := by
  rcases h with rfl | rfl | rfl | rfl
  · exact ⟨0, t1, rfl, rfl⟩
  · exact ⟨1, t2, rfl, rfl⟩
  · exact ⟨2, t3, rfl, rfl⟩
  · exact ⟨3, t4, rfl, rfl⟩
noncomputable def RankL (keys : List (Int × Int)) (led : List (Addr × Obj)) (v : Value) (q : Row) : Prop := (Ex3 fun T vs n => Al3 (v = .ref T) ((T, listOf (List.toArray vs) n) ∈ led) (IntsAre vs (rankOf keys q)))
theorem paired_mono {α β : Type} {F G : α → β → Prop} (k : ∀ a b, F a b → G a b) {l : List α} {r : List β} (hp : Paired F l r) : Paired G l r := by
  induction hp with
  | nil => exact .nil
  | cons f _ ih => exact .cons (k _ _ f) ih
theorem take_get {α : Type} {l : List α} {i : Nat} {q : α} (h : l[i]? = some q) : l.take (i + 1) = l.take i ++ [q] := by rw [List.take_add_one, h]; rfl
theorem rank_led {keys : List (Int × Int)} {rows : List Row} {C : Addr} {h : Heap} : ∀ {n vs}, GotN (RankF keys rows C) h n vs → ∃ led : List (Addr × Obj), (∀ p ∈ led, h.get? p.1 = some p.2 ∧ C + 1 < p.1) ∧ Paired (RankL keys led) vs (rows.take n) := by
  intro n vs g
  induction g with
  | nil => exact ⟨[], fun _ hp => (by cases hp), .nil⟩
  | @keep i vs y _ f ih =>
    obtain ⟨led, hl, hp⟩ := ih
    obtain ⟨T, ws, q, hq, e, hT, ⟨n, hg⟩, hi⟩ := f
    cases e
    refine ⟨led ++ [(T, listOf ws.toArray n)], fun p hp => ?_, ?_⟩
    · rcases List.mem_append.mp hp with hp | hp
      · exact hl p hp
      · rw [List.mem_singleton.mp hp]; exact ⟨hg, hT⟩
    · rw [take_get hq]
      exact Paired.snoc (paired_mono (fun a b ⟨T', ws', n', e, hm, hi'⟩ => ⟨T', ws', n', e, List.mem_append_left _ hm, hi'⟩) hp) ⟨T, ws, n, rfl, List.mem_append_right _ (List.mem_singleton.mpr rfl), hi⟩
  | skip _ f _ => obtain ⟨_, _, _, _, e, _⟩ := f; cases e
noncomputable def lessN (keys : List (Int × Int)) (rows : List Row) (q : Row) : Nat := (rows.filter fun r => ltL (rankOf keys r) (rankOf keys q)).length
noncomputable def LessF (keys : List (Int × Int)) (rows : List Row) (q : Row) (_ : Addr) (i : Nat) (o : Option Value) (_ : Heap) : Prop :=
  ∃ r, rows[i]? = some r ∧ ((ltL (rankOf keys r) (rankOf keys q) = true ∧ o.isSome = true) ∨ (ltL (rankOf keys r) (rankOf keys q) = false ∧ o = none))
theorem lessF_list {keys : List (Int × Int)} {rows : List Row} {q : Row} {C : Addr} {h : Heap} : ∀ {n vs}, GotN (LessF keys rows q C) h n vs → vs.length = lessN keys (rows.take n) q := by
  intro n vs g
  induction g with
  | nil => rfl
  | @keep i vs y _ f ih =>
    obtain ⟨r, hr, ⟨hl, _⟩ | ⟨_, e⟩⟩ := f
    · rw [take_get hr]; unfold lessN at *; rw [List.filter_append, List.length_append, List.length_append, ih]; simp [hl]
    · cases e
  | @skip i vs _ f ih =>
    obtain ⟨r, hr, ⟨_, e⟩ | ⟨hl, _⟩⟩ := f
    · cases e
    · rw [take_get hr]; unfold lessN at *; rw [List.filter_append, List.length_append, ih]; simp [hl]
theorem ltL_irrefl : ∀ x : List Int, ltL x x = false
  | [] => rfl
  | a :: x => by unfold ltL; rw [if_pos (by simp)]; exact ltL_irrefl x
theorem lessN_lt {keys : List (Int × Int)} {rows : List Row} {q : Row} (h : q ∈ rows) : lessN keys rows q < rows.length := by
  unfold lessN
  rcases Nat.lt_or_ge (rows.filter fun r => ltL (rankOf keys r) (rankOf keys q)).length rows.length with h1 | h1
  · exact h1
  · have e := List.length_filter_eq_length_iff.mp (Nat.le_antisymm (List.length_filter_le _ _) h1) q h
    rw [ltL_irrefl] at e; cases e
noncomputable def letterOf (keys : List (Int × Int)) (rows : List Row) (q : Row) : Str := Txt.item (Str.ofString "abcde") (lessN keys rows q : Nat)
noncomputable def LetF (keys : List (Int × Int)) (rows : List Row) (_ : Addr) (i : Nat) (o : Option Value) (_ : Heap) : Prop := (Ex2 fun q t => rows[i]? = some q ∧ o = some (.str (letterOf keys rows q) t))
theorem letF_list {keys : List (Int × Int)} {rows : List Row} {C : Addr} {h : Heap} : ∀ {n vs}, GotN (LetF keys rows C) h n vs → StrsAre vs ((rows.take n).map (letterOf keys rows)) := by
  intro n vs g
  induction g with
  | nil => exact .nil
  | @keep i vs y _ f ih =>
    obtain ⟨q, t, hq, e⟩ := f
    cases e
    rw [take_get hq, List.map_append]
    exact strsAre_append ih (.cons _ _ .nil)
  | skip _ f _ => obtain ⟨_, _, _, e⟩ := f; cases e
noncomputable def dueS (keys : List (Int × Int)) (rows : List Row) : Str := Txt.join (Str.ofString "") (rows.map (letterOf keys rows))
theorem letterOf_len (keys : List (Int × Int)) (rows : List Row) (q : Row) : (letterOf keys rows q).length ≤ 1 := Nat.le_refl 1
theorem sum_le : ∀ {l : List Str}, (∀ x ∈ l, x.length ≤ 1) → (l.map (·.length)).sum ≤ l.length
  | [], _ => Nat.le_refl _
  | x :: l, h => by
    rw [List.map_cons, List.sum_cons, List.length_cons]
    have h1 := h x (List.mem_cons_self ..)
    have h2 := sum_le (l := l) fun y hy => h y (List.mem_cons_of_mem _ hy)
    omega
set_option maxHeartbeats 16000000 in
theorem due_spec {w : World} (fg ks : Addr) (rows : List Row) (keys : List (Int × Int)) (hr : rows.length = 5) (hk3 : keys.length ≤ 100) (hcol : ∀ k ∈ keys, k.1 = 0 ∨ k.1 = 1 ∨ k.1 = 2 ∨ k.1 = 3)
   (hmul : ∀ k ∈ keys, ∀ q ∈ rows, IntMulOk (rowGet q k.1) k.2) :
   PCall w 100 [.ref fg, .ref ks] 8 40 (fun h => ListedAt RowAt h fg rows ∧ ListedAt KeyAt h ks keys) (fun _ _ v => ∃ t, v = .str (dueS keys rows) t) := by
  unfold PCall
  intro p loose mean mg mb dp un gd cn cs' a ccd cl outer A₀ base h₀ L m s gS dS tS oS Q E B F X T hk hd hu hpre hret
  obtain ⟨⟨vs, hl, hvs⟩, ⟨kvs, hkl, hkvs⟩⟩ := hpre
  have hlen : vs.length = rows.length := hvs.length
  have hklen : kvs.length = keys.length := hkvs.length
  refine wpAny_call ?_
  (refine' code_FC ?k1 ?k2 ?k3 ?k5 ?kA ?kF ?kK ?k6 ?k7 ?k8 ?k9 ?kB ?kD ?_ ?c2 ?c3 ?c4; (case kA => exact rfl); (case kF => exact rfl); (case kK => assumption); (case k1 => k_asm); (case k2 => k_asm); (case k3 => k_asm); (case k5 => k_asm); (case k6 => k_is); (case k7 => k_is); (case k8 => first | exact Nat.lt_of_le_of_lt (Nat.le_add_right _ _) (by assumption) | exact un0 (by assumption) (by decide) | exact un1 (by assumption) (by decide) | ktr_room); (case k9 => exact BindsTo.of_eq rfl); (case kB => exact rfl); (case kD => decide +kernel); (case c2 => exact rfl); (case c3 => exact rfl); (case c4 => exact rfl); k_whole; intro L' h' tk' cells' F' N' Y' B' X' T'; k_cells Y'; (try simp only [List.cons_append, List.nil_append] at N'); (try dsimp only); refine shutE ?_; intro P' E' hE' hP'; (try k_fold))
  k_steps
  rename Fr _ _ _ _ => F1
  obtain ⟨L1, hL1⟩ := fr_name F1
  subst hL1
  rename News _ _ _ _ => N1
  have hc1 : ∃ o2, (News s L1 _ (_ :: (L1 + 1, o2) :: [])) ∧ o2.data = .cell (some (.ref ks)) := ⟨_, N1, by assumption⟩
  obtain ⟨o2, N1, hdk⟩ := hc1
  have hck : Heap.IsCell _ (L1 + 1) _ := ⟨_, (N1 _ (.tail _ (.head _))).1, hdk⟩
  unfold Kept
  refine ListComp_turns1 (x := Str.ofString "row") (cl := [("keys", _)]) (RankF keys rows) ?stab (by with_unfolding_all rfl) (fun _ _ => rfl) (fun _ => rfl) rfl (by decide) ?_ (by intro _; rfl)
  case stab =>
    rintro C i o h h' k ⟨T, vs, q, hq, ho, hT, ⟨n, hl⟩, hi⟩
    exact ⟨T, vs, q, hq, ho, hT, ⟨n, k _ _ hT hl⟩, hi⟩
  k_steps
  refine lsrc_list1 rfl (hl.at fun o e => F1.keep _ _ e) (by rw [hlen, sizeLine_eq]; omega) ?turn ?fin
  case turn =>
    intro C E' i v h₁ tk₁ hC hv hIv hkp
    obtain ⟨q, hq, Tr, t1, t2, t3, t4, rfl, hTr⟩ := paired_get hvs hv
    obtain ⟨⟨m1, hns⟩, v0, hcl⟩ := hIv
    refine wpAny_assign_Name (wpAny_storeName_cell rfl rfl rfl hcl fun h₂ hcl₂ hs₂ => ?_)
    refine wpAny_tests_nil ?_
    rw [if_pos rfl]
    have hk2 : ∀ b o, Heap.get? _ b = some o → h₂.get? b = some o := fun b o e => hs₂.extBut b o (Nat.ne_of_lt (Nat.lt_succ_of_lt (Nat.lt_trans (Heap.lt_size e) hC))) (hkp b o e)
    have hns₂ := hns.sameBut hs₂ (Nat.ne_of_lt (Nat.lt_succ_self C))
    refine ListComp_turns (cl := [("row", C + 1)]) (ProdF keys q) (fun _ _ _ _ _ _ f => f) (by with_unfolding_all rfl) (by decide) rfl (by decide) ?_ (by intro _; rfl)
    refine wpAny_Name (wpAny_loadName_cell rfl rfl rfl (hck.keeps hk2) ?_) rfl
    refine lsrc_list rfl ((hkl.at fun o e => F1.keep _ _ e).at fun o e => hk2 _ _ e) (by rw [hklen, sizeLine_eq]; omega) ?turn2 ?fin2
    case turn2 =>
      intro C2 E2 j v2 h₄ tk₄ m₄ hC2 hv2 hn4 hk4
      obtain ⟨kq, hkq, Tk, u1, u2, rfl, hTk⟩ := paired_get hkvs hv2
      have hb4 : ∀ b o, Heap.get? s b = some o → h₄.get? b = some o := fun b o e => hk4 b o (hk2 b o (F1.keep b o e))
      refine kcp_assign rfl (let ⟨o, ho, r⟩ := hTk; ⟨o, hb4 _ o ho, r⟩) rfl rfl rfl hn4 fun h5 tk5 hn5 hk5 => ?_
      refine wpAny_tests_nil ?_
      rw [if_pos rfl]
      obtain ⟨oc, hoc, hdc⟩ := hcl₂
      have hCs : s.objs.size ≤ C := Nat.le_trans F1.above (Nat.le_of_lt (Nat.lt_trans F1.ns.lt hC))
      have hCC : C + 1 < C2 := Nat.lt_trans (Heap.lt_size hoc) hC2
      have F5 : Fr s C2 h5 _ := fr_comp hn5 (fun b o e => hk5 b o (Nat.ne_of_lt (Nat.lt_of_lt_of_le (Heap.lt_size e) (Nat.le_trans hCs (Nat.le_of_lt (Nat.lt_of_succ_lt hCC))))) (hb4 b o e)) (Nat.le_trans hCs (Nat.le_of_lt (Nat.lt_of_succ_lt hCC)))
      have N5 : News s C2 h5 [(C + 1, oc)] := news_cons (hk5 _ _ (Nat.ne_of_lt hCC) (hk4 _ _ hoc)) (Nat.le_trans hCs (Nat.le_succ C)) (Nat.ne_of_lt hCC) News.nil
      clear F1 N1
      k_steps
      rotate_left 4
      obtain ⟨j0, t0, hj0, hx0⟩ := row_item q (hcol kq (List.mem_of_getElem? hkq)) t1 t2 t3 t4
      have hb0 := hcol kq (List.mem_of_getElem? hkq)
      refine item_tuple (let ⟨o, ho, r⟩ := hTr; ⟨o, F5.keep _ o ho, r⟩) (col_bd hb0).1 (col_bd hb0).2 hj0 hx0 ?_
      k_steps
      rotate_left 4
      refine PyProof.Rows.mul_int ?_ (hmul kq (List.mem_of_getElem? hkq) q (List.mem_of_getElem? hq))
      exact ⟨⟨kq, _, hkq, rfl⟩, h5, _, _, rfl, hn5, hk5⟩
      all_goals first | exact (0 : Addr) | exact Str.empty | exact Value.none | exact []
    case fin2 =>
      intro s₂ wr ok
      refine finE ok ?_
      intro D2 C2 h₃ tk₃ vs3 hD2n hD2 hDC2 hpl g hk3
      refine ⟨⟨D2, vs3, q, hq, rfl, ?_, hpl, ?_⟩, h₃, tk₃, rfl, ⟨⟨_, hns₂.keeps hk3⟩, _, hcl₂.keeps hk3⟩, fun b o hb hb1 e => hk3 b o (hs₂.extBut b o hb1 e)⟩
      · exact Nat.lt_of_lt_of_le hcl₂.lt hD2
      · have := prodF_list g (Nat.le_of_eq hklen)
        rwa [hklen, List.take_length] at this
  case fin =>
    intro s₂ wr ok
    refine finE ok ?_
    intro D C h₃ tk₃ vs3 hDn hDs hDC hpl g hk3
    obtain ⟨led, hled, hranks⟩ := rank_led g
    rw [hlen, List.take_length] at hranks
    have hlen3 := hranks.length
    have hLs : L1 < _ := F1.ns.lt
    have hLD : L1 < D := Nat.lt_of_lt_of_le hLs hDs
    have hcr : ∃ o1, (News s L1 _ ((L1 + 1 + 1, o1) :: (L1 + 1, o2) :: [])) ∧ ∃ v0, o1.data = .cell v0 := ⟨_, N1, _, by assumption⟩
    obtain ⟨o1, N1', v0, hdr⟩ := hcr
    obtain ⟨nD, hoD⟩ := hpl
    have F2 : Fr s L1 _ _ := fr_up F1 hk3
    have hab := F1.above
    have g1 := (N1' _ (.head _)).1
    have g2 := (N1' _ (.tail _ (.head _))).1
    refine wpAny_storeName_cell (c := L1 + 1 + 1) rfl rfl rfl ⟨_, hk3 _ _ g1, hdr⟩ fun h4 hcl4 hs4 => ?_
    have l1 := Nat.lt_of_lt_of_le (Heap.lt_size g1) hDs
    have ne0 : L1 ≠ L1 + 1 + 1 := Nat.ne_of_lt (Nat.lt_succ_of_lt (Nat.lt_succ_self L1))
    have ne1 : L1 + 1 ≠ L1 + 1 + 1 := Nat.ne_of_lt (Nat.lt_succ_self (L1 + 1))
    have ne2 : D ≠ L1 + 1 + 1 := Nat.ne_of_gt l1
    obtain ⟨o4, ho4, hd4⟩ := hcl4
    have F4 : Fr s L1 h4 _ := ⟨F2.ns.sameBut hs4 ne0, fun b o e => hs4.extBut b o (Nat.ne_of_lt (Nat.lt_of_lt_of_le (Heap.lt_size e) (Nat.le_trans hab (Nat.le_add_right L1 2)))) (F2.keep b o e), hab⟩
    have N4 : News s L1 h4 ((L1 + 1, o2) :: (D, listOf vs3.toArray nD) :: (L1 + 1 + 1, o4) :: led) :=
      news_cons (hs4.extBut _ _ ne1 (hk3 _ _ g2)) (Nat.le_trans hab (Nat.le_succ L1)) (Nat.ne_of_gt (Nat.lt_succ_self L1)) <|
      news_cons (hs4.extBut _ _ ne2 hoD) (Nat.le_trans hab (Nat.le_of_lt hLD)) (Nat.ne_of_gt hLD) <| news_cons ho4 (Nat.le_trans hab (Nat.le_add_right L1 2)) (Ne.symm ne0) <| fun p hp => by
        have hp' := hled p hp
        have q1 : L1 + 1 + 1 < p.1 := Nat.lt_trans l1 (Nat.lt_trans hDC (Nat.lt_of_succ_lt hp'.2))
        exact ⟨hs4.extBut _ _ (Nat.ne_of_gt q1) hp'.1, Nat.ne_of_gt (Nat.lt_of_succ_lt (Nat.lt_of_succ_lt q1)), Heap.get?_none_of_le (Nat.le_trans hab (Nat.le_of_lt (Nat.lt_of_succ_lt (Nat.lt_of_succ_lt q1))))⟩
    clear F1 F2 N1 N1'
    dsimp only
    k_steps
    unfold Kept
    refine ListComp_turns1 (x := Str.ofString "rank") (cl := [("ranks", L1 + 1 + 1)]) (LetF keys rows) (fun _ _ _ _ _ _ f => f) (by with_unfolding_all rfl) (fun _ _ => rfl) (fun _ => rfl) rfl (by decide) ?_ (by intro _; rfl)
    k_steps
    have hDl : Heap.IsList h4 D vs3.toArray := ⟨_, (N4 _ (.tail _ (.head _))).1, rfl, nD, rfl⟩
    refine lsrc_list1 rfl hDl (by rw [hlen3, hr, sizeLine_eq]; omega) ?turn3 ?fin3
    case turn3 =>
      intro C3 E3 i v h5 tk5 hC3 hv hIv hk5
      obtain ⟨q, hq, Tr, ws, nr, rfl, hTr, hwi⟩ := paired_get hranks hv
      obtain ⟨⟨m5, hns5⟩, v5, hcl5⟩ := hIv
      refine wpAny_assign_Name (wpAny_storeName_cell rfl rfl rfl hcl5 fun h6 hcl6 hs6 => ?_)
      refine wpAny_tests_nil ?_
      rw [if_pos rfl]
      have hk6 : ∀ b o, Heap.get? h4 b = some o → h6.get? b = some o := fun b o e => hs6.extBut b o (Nat.ne_of_lt (Nat.lt_succ_of_lt (Nat.lt_trans (Heap.lt_size e) hC3))) (hk5 b o e)
      have hns6 := hns5.sameBut hs6 (Nat.ne_of_lt (Nat.lt_succ_self C3))
      obtain ⟨o6, ho6, hd6⟩ := hcl6
      have hL4 : L1 < C3 := Nat.lt_trans F4.ns.lt hC3
      have hbC : s.objs.size ≤ C3 := Nat.le_trans hab (Nat.le_of_lt hL4)
      have F6 : Fr s C3 h6 _ := fr_comp hns6 (fun b o e => hk6 b o (F4.keep b o e)) hbC
      have N6 : News s C3 h6 ((C3 + 1, o6) :: (L1 + 1 + 1, o4) :: []) :=
        news_cons ho6 (Nat.le_trans hbC (Nat.le_succ C3)) (Nat.ne_of_gt (Nat.lt_succ_self C3)) <| news_cons (hk6 _ _ ho4) (Nat.le_trans hab (Nat.le_add_right L1 2)) (Nat.ne_of_lt (Nat.lt_trans (Heap.lt_size ho4) hC3)) News.nil
      have F4' : Fr s L1 h6 _ := fr_up F4 hk6
      have N4' : News s L1 h6 _ := news_up N4 hk6
      clear F4 N4
      k_steps
      unfold Kept
      refine ListComp_turns (cl := [("rank", C3 + 1)]) (LessF keys rows q) (fun _ _ _ _ _ _ f => f) (by with_unfolding_all rfl) (by decide) rfl (by decide) ?_ (by intro _; rfl)
      k_steps
      have hDl6 : Heap.IsList h6 D vs3.toArray := hDl.at fun o e => hk6 _ _ e
      refine lsrc_list rfl hDl6 (by rw [hlen3, hr, sizeLine_eq]; omega) ?turn4 ?fin4
      case turn4 =>
        intro C7 E7 j v7 h7 tk7 m7 hC7 hv7 hn7 hk7
        obtain ⟨r, hrr, Tr2, ws2, nr2, rfl, hTr2, hwi2⟩ := paired_get hranks hv7
        refine wpAny_assign_Name (wpAny_storeName_local rfl hn7 (fun h8 hn8 hs8 => ?_) rfl)
        have hk8 : ∀ b o, Heap.get? h6 b = some o → h8.get? b = some o := fun b o e => hs8.extBut b o (Nat.ne_of_lt (Nat.lt_trans (Heap.lt_size e) hC7)) (hk7 b o e)
        have hC67 : C3 < C7 := Nat.lt_trans (Nat.lt_of_succ_lt (Heap.lt_size ho6)) hC7
        have F8 : Fr s C7 h8 _ := fr_comp hn8 (fun b o e => hk8 b o (F6.keep b o e)) (Nat.le_trans hbC (Nat.le_of_lt hC67))
        have N8 : News s C7 h8 ((C3 + 1, o6) :: []) := news_cons (hk8 _ _ ho6) (Nat.le_trans hbC (Nat.le_succ C3)) (Nat.ne_of_lt (Nat.lt_trans (Heap.lt_size ho6) hC7)) News.nil
        have g8 : Heap.IsList h8 Tr ws.toArray := ⟨_, hk8 _ _ (N4' _ (.tail _ (.tail _ (.tail _ hTr)))).1, rfl, nr, rfl⟩
        have g9 : Heap.IsList h8 Tr2 ws2.toArray := ⟨_, hk8 _ _ (N4' _ (.tail _ (.tail _ (.tail _ hTr2)))).1, rfl, nr2, rfl⟩
        clear F4' N4' F6 N6
        refine wpAny_tests_one ?_
        k_steps
        rotate_left 4
        refine lt_list_ints g9 g8 hwi2 hwi (by unfold rankOf; rw [List.length_map, List.length_map]) (by first | exact un1 (by assumption) (by decide) | exact un2 (by assumption) (by decide) | exact un3 (by assumption) (by decide) | exact un0 (by assumption) (by decide) | ktr_units) ?_
        cases hb : ltL (rankOf keys r) (rankOf keys q) with
        | true =>
          k_steps
          rotate_left 4
          exact ⟨⟨r, hrr, .inl ⟨hb, rfl⟩⟩, h8, _, _, rfl, hn8, fun b o hb e => hs8.extBut b o hb e⟩
          all_goals first | exact (0 : Addr) | exact Str.empty | exact Value.none | exact []
        | false =>
          k_steps
          exact ⟨⟨r, hrr, .inr ⟨hb, rfl⟩⟩, h8, _, _, rfl, hn8, fun b o hb e => hs8.extBut b o hb e⟩
        all_goals first | exact (0 : Addr) | exact Str.empty | exact Value.none | exact []
      case fin4 =>
        intro s₂ wr ok
        refine finE ok ?_
        intro D2 C2 h7 tk7 vs7 hD2n hD2 hDC2 hpl7 g7 hk7
        have hln7 := lessF_list g7
        rw [hlen3, List.take_length] at hln7
        have hlt7 := lessN_lt (keys := keys) (List.mem_of_getElem? hq)
        have hsz : vs7.toArray.size = lessN keys rows q := by simpa using hln7
        rw [hr] at hlt7
        k_steps
        refine Calls.call_len_list hpl7.isList (by rw [hsz]; omega) ?_
        rw [hsz]
        k_steps
        exact ⟨⟨q, _, hq, rfl⟩, h7, _, rfl, ⟨⟨_, hns6.keeps hk7⟩, _, o6, hk7 _ _ ho6, hd6⟩, fun b o hb hb1 e => hk7 b o (hs6.extBut b o hb1 e)⟩
    case fin3 =>
      intro s₂ wr ok
      refine finE ok ?_
      intro D2 C2 h7 tk7 vs7 hD2n hD2 hDC2 hpl7 g7 hk7
      have F7 := fr_up F4 hk7
      have N7 := news_up N4 hk7
      have hst := letF_list g7
      rw [hlen3, List.take_length] at hst
      clear F4 N4
      dsimp only
      k_steps
      refine join_listW hpl7.isList hst (by decide) ?_ fun t' k => ?_
      · have := sum_le (l := rows.map (letterOf keys rows)) fun x hx => by obtain ⟨q, _, rfl⟩ := List.mem_map.mp hx; exact letterOf_len _ _ _
        rw [List.length_map] at this ⊢
        omega
      k_steps
      exact hret _ _ _ (by assumption) ⟨_, rfl⟩
end
section
section
example : True := by
  k_with_none
  k_with "LeaveF" => (refine leaveF_ (by k_asm) ?_; intro kk; (try dsimp only))
  k_with "Shut" => (refine shut (by assumption) ?_; (try dsimp only))
  k_with "execs cons" => (refine shutX ?_; intro tX PX hPX)
  k_with "exec For Name Call cons nil" => (k_here; refine held ?_)
  k_with "exec For Tuple Call cons nil" => (k_here; refine held ?_)
  k_with "exec For Name Name cons nil" => (k_here; refine held ?_)
  k_with "exec For Tuple Name cons nil" => (k_here; refine held ?_)
  k_with "exec While" => (k_here; refine held ?_)
  k_with "eval Name" => (k_here; (refine' wpAny_Name (wpAny_loadName_local rfl rfl (ns_led ?nN ?nM ?nF) ?nv ?_) rfl); (case nF => assumption); (case nN => k_asm); (case nM => k_mem); (case nv => exact rfl))
  k_with "eval ListComp" => (k_here; refine held ?_)
  k_with "newTuple" => (k_here; k_dflt (refine' newTuple_U ?F ?N ?U ?_ ?z; (case F => k_asm); (case N => k_asm); (case U => assumption); (case z => kmk_size)); intro D' h' F' N' l1 U'; (try k_lt l1))
  trivial
noncomputable def fewestOf (x : Str) (xs : List Str) (c : List (Str × Int)) : Int :=
  if x = Str.ofString "abcde" then 0 else if xs.any (· == Str.ofString "abcde") then 1 else if (xs.map fun y => kdpLook c y 0).any (· == 2) then 2 else 3
noncomputable def LookF (xs : List Str) (c : List (Str × Int)) (_ : Addr) (i : Nat) (o : Option Value) (_ : Heap) : Prop := (Ex2 fun y t => xs[i]? = some y ∧ o = some (.int (kdpLook c y 0) t))
theorem lookF_list {xs : List Str} {c : List (Str × Int)} {C : Addr} {h : Heap} : ∀ {n vs}, GotN (LookF xs c C) h n vs → IntsAre vs ((xs.take n).map fun y => kdpLook c y 0) := by
  intro n vs g
  induction g with
  | nil => exact .nil
  | @keep i vs y _ f ih =>
    obtain ⟨z, t, hz, e⟩ := f
    cases e
    rw [List.take_add_one, hz]
    show IntsAre _ (List.map _ (_ ++ [z]))
    rw [List.map_append]
    exact intsAre_append ih (.cons _ _ .nil)
  | skip _ f _ => obtain ⟨_, _, _, e⟩ := f; cases e
theorem strsAre_get {vs : List Value} {xs : List Str} (hs : StrsAre vs xs) : ∀ {i : Nat} {v : Value}, vs[i]? = some v → (Ex2 fun x t => xs[i]? = some x ∧ v = .str x t) := by
  induction hs with
  | nil => intro i v h; rw [List.getElem?_nil] at h; cases h
  | cons n t r ih =>
    intro i v h
    cases i with
    | zero => exact ⟨_, _, rfl, (Option.some.inj h).symm⟩
    | succ i => exact ih h
set_option maxHeartbeats 16000000 in
theorem fewest_spec {w : World} (x : Str) (tx : Tok) (st b : Addr) (xs : List Str) (c : List (Str × Int)) (hn : xs.length ≤ 1000) (hin : ∀ y ∈ xs, kdpHas c y = true) :
   PCall w 143 [.str x tx, .ref st, .ref b] 8 40 (fun h => StrsAt h st xs ∧ DictAt w h b c) (fun _ _ v => ∃ t, v = .int (fewestOf x xs c) t) := by
  unfold PCall
  intro p loose mean mg mb dp un gd cn cs' a ccd cl outer A₀ base h₀ L m s gS dS tS oS Q E B F X T hk hd hu hpre hret
  obtain ⟨⟨vs, n, hl, hst⟩, hb⟩ := hpre
  have hvl := strsAre_length hst
  refine wpAny_call ?_
  (refine' code_FC ?k1 ?k2 ?k3 ?k5 ?kA ?kF ?kK ?k6 ?k7 ?k8 ?k9 ?kB ?kD ?_ ?c2 ?c3 ?c4; (case kA => exact rfl); (case kF => exact rfl); (case kK => assumption); (case k1 => k_asm); (case k2 => k_asm); (case k3 => k_asm); (case k5 => k_asm); (case k6 => k_is); (case k7 => k_is); (case k8 => first | exact Nat.lt_of_le_of_lt (Nat.le_add_right _ _) (by assumption) | exact un0 (by assumption) (by decide) | exact un1 (by assumption) (by decide) | ktr_room); (case k9 => exact BindsTo.of_eq rfl); (case kB => exact rfl); (case kD => decide +kernel); (case c2 => exact rfl); (case c3 => exact rfl); (case c4 => exact rfl); k_whole; intro L' h' tk' cells' F' N' Y' B' X' T'; k_cells Y'; (try simp only [List.cons_append, List.nil_append] at N'); (try dsimp only); refine shutE ?_; intro P' E' hE' hP'; (try k_fold))
  k_steps
  · refine hret _ _ _ (by assumption) ⟨_, congrArg (fun z => Value.int z _) ?_⟩
    unfold fewestOf
    rw [if_pos (by simp_all)]
  have hx : ¬ x = Str.ofString "abcde" := by simp_all
  rename Fr _ _ _ _ => F1
  obtain ⟨L1, hL1⟩ := fr_name F1
  subst hL1
  rename News _ _ _ _ => N1
  have hl1 := F1.keep _ _ hl
  obtain ⟨lo, kvs, hD, hf⟩ := id hb
  refine in_list_strs ⟨_, hl1, rfl, n, rfl⟩ hst ?_
  cases hab : xs.any (· == Str.ofString "abcde") with
  | true =>
    k_steps
    refine hret _ _ _ (by assumption) ⟨_, congrArg (fun z => Value.int z _) ?_⟩
    unfold fewestOf
    rw [if_neg hx, if_pos hab]
  | false =>
    k_steps
    unfold Kept
    refine ListComp_turns (cl := [("both", L1 + 1)]) (LookF xs c) (fun _ _ _ _ _ _ f => f) (by with_unfolding_all rfl) (by decide) rfl (by decide) ?_ (by intro _; rfl)
    k_steps
    refine lsrc_list rfl ⟨_, hl1, rfl, n, rfl⟩ (by rw [hvl, sizeLine_eq]; omega) ?turn ?fin
    case turn =>
      intro C E' i v h1 tk1 m1 hC hv hn1 hk1
      obtain ⟨y, ty, hy, rfl⟩ := strsAre_get hst hv
      refine wpAny_assign_Name (wpAny_storeName_local rfl hn1 (fun h2 hn2 hs2 => ?_) rfl)
      have up : ∀ b o, Heap.get? _ b = some o → h2.get? b = some o := fun b o e => hs2.extBut b o (Nat.ne_of_lt (Nat.lt_trans (Heap.lt_size e) hC)) (hk1 b o e)
      obtain ⟨oC, F5, N5, nC⟩ := comp_led F1 N1 up hC hn2
      clear F1 N1
      refine wpAny_tests_nil ?_
      rw [if_pos rfl]
      have hT : StrTab PR w h2 b (kdpD c) := ⟨lo, kvs, hD.keep F5.keep, hf⟩
      k_steps
      refine kdp_getItem hT (hin y (List.mem_of_getElem? hy)) fun t9 => ?_
      exact ⟨⟨y, t9, hy, rfl⟩, h2, _, _, rfl, hn2, fun b o hb e => hs2.extBut b o hb e⟩
    case fin =>
      intro s₂ wr ok
      refine finE ok ?_
      intro D C h₃ tk₃ vs3 hDn hDs hDC hpl g hk3
      have F3 := fr_up F1 hk3
      have hi := lookF_list g
      rw [hvl, List.take_length] at hi
      clear F1 N1
      dsimp only
      refine in_list_ints hpl.isList hi ?_
      cases h2 : ((xs.map fun y => kdpLook c y 0).any (· == 2)) with
      | true =>
        k_steps
        refine hret _ _ _ (by assumption) ⟨_, congrArg (fun z => Value.int z _) ?_⟩
        unfold fewestOf
        rw [if_neg hx, if_neg (by rw [hab]; decide), if_pos h2]
      | false =>
        k_steps
        refine hret _ _ _ (by assumption) ⟨_, congrArg (fun z => Value.int z _) ?_⟩
        unfold fewestOf
        rw [if_neg hx, if_neg (by rw [hab]; decide), if_neg (by rw [h2]; decide)]
end
section
example : True := by
  k_with_none
  k_with "LeaveF" => (refine leaveF_ (by k_asm) ?_; intro kk; (try dsimp only))
  k_with "Shut" => (refine shut (by assumption) ?_; (try dsimp only))
  k_with "execs cons" => (refine shutX ?_; intro tX PX hPX)
  k_with "exec For Name Call cons nil" => (k_here; refine held ?_)
  k_with "exec For Tuple Call cons nil" => (k_here; refine held ?_)
  k_with "exec For Name Name cons nil" => (k_here; refine held ?_)
  k_with "exec For Tuple Name cons nil" => (k_here; refine held ?_)
  k_with "exec While" => (k_here; refine held ?_)
  k_with "eval Name" => (k_here; (refine' wpAny_Name (wpAny_loadName_local rfl rfl (ns_led ?nN ?nM ?nF) ?nv ?_) rfl); (case nF => assumption); (case nN => k_asm); (case nM => k_mem); (case nv => exact rfl))
  k_with "eval ListComp" => (k_here; refine held ?_)
  k_with "newTuple" => (k_here; k_dflt (refine' newTuple_U ?F ?N ?U ?_ ?z; (case F => k_asm); (case N => k_asm); (case U => assumption); (case z => kmk_size)); intro D' h' F' N' l1 U'; (try k_lt l1))
  k_with "subscriptTail" => (k_here; refine held ?_)
  trivial
noncomputable def sgOf (n : Int) (i : Nat) : Int := ([1, -1, 3, -2] : List Int).getD (((n.fdiv 6).fdiv (4 ^ i)).fmod 4).toNat 0
noncomputable def keysOf (n : Int) : List (Int × Int) := [(n.fmod 3, sgOf n 0), ((n + 1 + (n.fdiv 3).fmod 2).fmod 3, sgOf n 1), (3, sgOf n 2)]
noncomputable def tupOf (l : List Value) : Obj := { cls := .type "tuple", data := .seq l.toArray }
noncomputable def KeyF (n : Int) (C : Addr) (i : Nat) (o : Option Value) (h : Heap) : Prop :=
  (Ex4 fun T k t1 t2 => Al4 ((keysOf n)[i]? = some k) (o = some (.ref T)) (C < T) (h.get? T = some (tupOf [.int k.1 t1, .int k.2 t2])))
theorem sgOf_of {n : Int} {i : Nat} {j : Int} (h : ((n.fdiv 6).fdiv (4 ^ i)).fmod 4 = j) : sgOf n i = ([1, -1, 3, -2] : List Int).getD j.toNat 0 := by unfold sgOf; rw [h]
noncomputable def KeyL (led : List (Addr × Obj)) (v : Value) (q : Int × Int) : Prop := (Ex3 fun T t1 t2 => v = .ref T ∧ (T, tupOf [.int q.1 t1, .int q.2 t2]) ∈ led)
theorem key_led {n : Int} {C : Addr} {h : Heap} : ∀ {k vs}, GotN (KeyF n C) h k vs → ∃ led : List (Addr × Obj), (∀ p ∈ led, h.get? p.1 = some p.2 ∧ C < p.1) ∧ Paired (KeyL led) vs ((keysOf n).take k) := by
  intro k vs g
  induction g with
  | nil => exact ⟨[], fun _ hp => (by cases hp), .nil⟩
  | @keep i vs y _ f ih =>
    obtain ⟨led, hl, hp⟩ := ih
    obtain ⟨T, q, t1, t2, hq, e, hT, hg⟩ := f
    cases e
    refine ⟨led ++ [(T, tupOf [.int q.1 t1, .int q.2 t2])], fun p hp => ?_, ?_⟩
    · rcases List.mem_append.mp hp with hp | hp
      · exact hl p hp
      · rw [List.mem_singleton.mp hp]; exact ⟨hg, hT⟩
    · rw [take_get hq]
      exact Paired.snoc (paired_mono (fun a b ⟨T', t1', t2', e, hm⟩ => ⟨T', t1', t2', e, List.mem_append_left _ hm⟩) hp) ⟨T, t1, t2, rfl, List.mem_append_right _ (List.mem_singleton.mpr rfl)⟩
  | skip _ f _ => obtain ⟨_, _, _, _, _, e, _⟩ := f; cases e
set_option maxHeartbeats 16000000 in
theorem keys_spec {w : World} (n : Int) (tn : Tok) (h0 : 0 ≤ n) (h1 : n < 10 ^ 9) :
   PCall w 95 [.int n tn] 8 40 (fun _ => True) (fun h0 h v => (Ex4 fun f led vs c => Al4 (v = .ref f) ((∀ p ∈ led, NewAt h0 h p.1 p.2)) ((f, listOf (List.toArray vs) c) ∈ led) (Paired (KeyL led) vs (keysOf n)))) := by
  unfold PCall
  intro p loose mean mg mb dp un gd cn cs' a ccd cl outer A₀ base h₀ L m s gS dS tS oS Q E B F X T hk hd hu hpre hret
  refine wpAny_call ?_
  (refine' code_FC ?k1 ?k2 ?k3 ?k5 ?kA ?kF ?kK ?k6 ?k7 ?k8 ?k9 ?kB ?kD ?_ ?c2 ?c3 ?c4; (case kA => exact rfl); (case kF => exact rfl); (case kK => assumption); (case k1 => k_asm); (case k2 => k_asm); (case k3 => k_asm); (case k5 => k_asm); (case k6 => k_is); (case k7 => k_is); (case k8 => first | exact Nat.lt_of_le_of_lt (Nat.le_add_right _ _) (by assumption) | exact un0 (by assumption) (by decide) | exact un1 (by assumption) (by decide) | ktr_room); (case k9 => exact BindsTo.of_eq rfl); (case kB => exact rfl); (case kD => decide +kernel); (case c2 => exact rfl); (case c3 => exact rfl); (case c4 => exact rfl); k_whole; intro L' h' tk' cells' F' N' Y' B' X' T'; k_cells Y'; (try simp only [List.cons_append, List.nil_append] at N'); (try dsimp only); refine shutE ?_; intro P' E' hE' hP'; (try k_fold))
  k_steps
  unfold Kept
  rename Fr _ _ _ _ => F1
  obtain ⟨L1, hL1⟩ := fr_name F1
  subst hL1
  rename News _ _ _ _ => N1
  refine ListComp_turns (cl := [("number", L1 + 1)]) (KeyF n) ?stab (by with_unfolding_all rfl) (by decide) rfl (by decide) ?_ (by intro _; rfl)
  case stab =>
    rintro C i o h h' k ⟨T, kk, t1, t2, hk, ho, hT, hg⟩
    exact ⟨T, kk, t1, t2, hk, ho, hT, k _ _ hT hg⟩
  k_steps
  refine lsrc_enum rfl ⟨_, (N1 _ (.head _)).1, rfl, _, rfl⟩ (by rw [sizeLine_eq]; simp) ?turn ?fin
  case turn =>
    intro C E' i v T t h1 tk1 m1 hC hv hT hn hk
    have hi : i = 0 ∨ i = 1 ∨ i = 2 := by
      have := (List.getElem?_eq_some_iff.mp hv).1
      simp at this; omega
    refine kcp_assign rfl hT rfl rfl rfl hn fun h2 tk2 hn2 hk2 => ?_
    have up : ∀ b o, Heap.get? _ b = some o → h2.get? b = some o := fun b o e => hk2 b o (Nat.ne_of_lt (Nat.lt_trans (Heap.lt_size e) hC)) (hk b o e)
    obtain ⟨oC, F5, N5, nC⟩ := comp_led F1 N1 up hC hn2
    clear F1 N1
    refine wpAny_tests_nil ?_
    rw [if_pos rfl]
    have U0 : Upk h2 h2 := fun _ _ e => e
    rcases hi with rfl | rfl | rfl
    · cases hv
      k_steps
      unfold Kept
      rename News _ _ _ _ => N7
      refine item_anyT (vs := [_, _, _, _]) (ns := [1, -1, 3, -2]) (News.isTup N7 (.head _)) (.cons _ _ (.cons _ _ (.cons _ _ (.cons _ _ .nil)))) (Int.fmod_nonneg_of_pos _ (by decide)) (Int.fmod_lt_of_pos _ (by decide)) (Int.lt_of_lt_of_le (Int.fmod_lt_of_pos _ (by decide)) (by decide)) fun t9 => ?_
      k_steps
      rename News _ _ _ _ => N6
      rename Upk _ _ => U6
      refine ⟨⟨_, (n.fmod 3, sgOf n 0), _, _, rfl, rfl, ?_, (N6 _ (.head _)).1⟩, _, _, _, rfl, ns_led N6 (by k_mem) nC, fun b o hb e => U6 b o (hk2 b o hb e)⟩
      rename (_ < _ ∧ _) => ll
      exact ll.2.1
    · cases hv
      k_steps
      unfold Kept
      rename News _ _ _ _ => N7
      refine item_anyT (vs := [_, _, _, _]) (ns := [1, -1, 3, -2]) (News.isTup N7 (.head _)) (.cons _ _ (.cons _ _ (.cons _ _ (.cons _ _ .nil)))) (Int.fmod_nonneg_of_pos _ (by decide)) (Int.fmod_lt_of_pos _ (by decide)) (Int.lt_of_lt_of_le (Int.fmod_lt_of_pos _ (by decide)) (by decide)) fun t9 => ?_
      k_steps
      rename News _ _ _ _ => N6
      rename Upk _ _ => U6
      refine ⟨⟨_, ((n + 1 + (n.fdiv 3).fmod 2).fmod 3, sgOf n 1), _, _, rfl, rfl, ?_, (N6 _ (.head _)).1⟩, _, _, _, rfl, ns_led N6 (by k_mem) nC, fun b o hb e => U6 b o (hk2 b o hb e)⟩
      rename (_ < _ ∧ _) => ll
      exact ll.2.1
    · cases hv
      k_steps
      unfold Kept
      rename News _ _ _ _ => N7
      refine item_anyT (vs := [_, _, _, _]) (ns := [1, -1, 3, -2]) (News.isTup N7 (.head _)) (.cons _ _ (.cons _ _ (.cons _ _ (.cons _ _ .nil)))) (Int.fmod_nonneg_of_pos _ (by decide)) (Int.fmod_lt_of_pos _ (by decide)) (Int.lt_of_lt_of_le (Int.fmod_lt_of_pos _ (by decide)) (by decide)) fun t9 => ?_
      k_steps
      rename News _ _ _ _ => N6
      rename Upk _ _ => U6
      refine ⟨⟨_, (3, sgOf n 2), _, _, rfl, rfl, ?_, (N6 _ (.head _)).1⟩, _, _, _, rfl, ns_led N6 (by k_mem) nC, fun b o hb e => U6 b o (hk2 b o hb e)⟩
      rename (_ < _ ∧ _) => ll
      exact ll.2.1
  case fin =>
    intro s₂ wr ok
    refine finE ok ?_
    intro D C h₃ tk₃ vs3 hDn hDs hDC hpl g hk3
    have F3 := fr_up F1 hk3
    obtain ⟨nD, hoD⟩ := hpl
    obtain ⟨led, hled, hkeys⟩ := key_led g
    have hab := F1.above
    have hL := F1.ns.lt
    have hsC : s.objs.size ≤ C := Nat.le_trans hab (Nat.le_trans (Nat.le_of_lt hL) (Nat.le_trans hDs (Nat.le_of_lt hDC)))
    have hsD : s.objs.size ≤ D := Nat.le_trans hab (Nat.le_trans (Nat.le_of_lt hL) hDs)
    clear F1 N1
    dsimp only
    k_steps
    refine hret _ _ _ (by assumption) ⟨D, (D, listOf vs3.toArray nD) :: led, vs3, nD, rfl, fun p hp => ?_, List.mem_cons_self .., ?_⟩
    · rcases List.mem_cons.mp hp with rfl | hp
      · exact ⟨hoD, Heap.get?_none_of_le hsD⟩
      · exact ⟨(hled p hp).1, Heap.get?_none_of_le (Nat.le_trans hsC (Nat.le_of_lt (hled p hp).2))⟩
    · exact paired_mono (fun a b ⟨T', t1', t2', e, hm⟩ => ⟨T', t1', t2', e, List.mem_cons_of_mem _ hm⟩) hkeys
end
end
section
example : True := by
  k_with_none
  k_with "LeaveF" => (refine leaveF_ (by k_asm) ?_; intro kk; (try dsimp only))
  k_with "Shut" => (refine shut (by assumption) ?_; (try dsimp only))
  k_with "execs cons" => (refine shutX ?_; intro tX PX hPX)
  k_with "exec For Name Call cons nil" => (k_here; refine held ?_)
  k_with "exec For Tuple Call cons nil" => (k_here; refine held ?_)
  k_with "exec For Name Name cons nil" => (k_here; refine held ?_)
  k_with "exec For Tuple Name cons nil" => (k_here; refine held ?_)
  k_with "exec While" => (k_here; refine held ?_)
  trivial
theorem mark_none (A : Around) : A.mark none = A := by cases A; rfl
section
variable {prog : Program} {w : World} {A : Around} {E : Value → Shared → Prop} {R : Result → Shared → Prop} {s : Shared}
noncomputable abbrev TwoC (elt t1 i1 t2 i2 : Expr) (scope : Scope) (pos : Pos) : Expr := .ListComp elt [⟨t1, i1, [], 0⟩, ⟨t2, i2, [], 0⟩] scope pos
theorem compTurn_two0 (elt t1 i1 t2 i2 : Expr) (scope : Scope) (pos : Pos) (it acc : Value) (env : Env) :
    compTurn (TwoC elt t1 i1 t2 i2 scope pos) 0 it acc env = (do
      standAt i1.pos
      match ← pyNext it with
      | none => pure (.done .next)
      | some v =>
        letOwnedTupleGo t1 it v
        assign t1 env v
        let x ← eval i2 env
        standAt i2.pos
        let x ← foldedSetIterable i2 env x
        let _ ← runOwn (.compStart (TwoC elt t1 i1 t2 i2 scope pos) 1 (← holding [x] (pyIter x)) acc env) env
        again (.compLoop (TwoC elt t1 i1 t2 i2 scope pos) 0 it acc env)) := by rfl
theorem compTurn_two1 (elt t1 i1 t2 i2 : Expr) (scope : Scope) (pos : Pos) (it acc : Value) (env : Env) :
    compTurn (TwoC elt t1 i1 t2 i2 scope pos) 1 it acc env = (do
      standAt i2.pos
      match ← pyNext it with
      | none => pure (.done .next)
      | some v =>
        letOwnedTupleGo t2 it v
        assign t2 env v
        (do let _ ← call (.builtin "list.append") [acc, ← eval elt env])
        again (.compLoop (TwoC elt t1 i1 t2 i2 scope pos) 1 it acc env)) := by rfl
theorem two_loop1 {elt t1 i1 t2 i2 : Expr} {scope : Scope} {pos : Pos} {it acc : Value} {env : Env} (I : Nat → Shared → Prop)
    (turn : ∀ n s, I n s → wpAny (model prog w) A (pyNext it) (fun r s₁ => match r with
      | none => R (.ok .next) s₁
      | some v => wpAny (model prog w) A (letOwnedTupleGo t2 it v) (fun _ s₀ => wpAny (model prog w) A (assign t2 env v) (fun _ s₂ =>
          wpAny (model prog w) A (eval elt env) (fun x s₄ =>
              wpAny (model prog w) A (call (.builtin "list.append") [acc, x]) (fun _ s₅ => ∃ m, m < n ∧ I m s₅) (notedBy (model prog w) A env fun e s' => R (.error e) s') s₄) (notedBy (model prog w) A env fun e s' => R (.error e) s') s₂) (notedBy (model prog w) A env fun e s' => R (.error e) s') s₀)
            (notedBy (model prog w) A env fun e s' => R (.error e) s') s₁) (notedBy (model prog w) A env fun e s' => R (.error e) s') s)
    (n : Nat) (h : I n s) : codeAny (model prog w) A (.compLoop (TwoC elt t1 i1 t2 i2 scope pos) 1 it acc env) R s := by
  refine codeAny_loop rfl I (fun n s hI => ?_) n h
  show wpAny _ A ((compTurn (TwoC elt t1 i1 t2 i2 scope pos) 1 it acc env).onRaise (fun x => do noteFrame x env; theTreesLotGoes x)) _ _ s
  refine wpAny_noted ?_
  rw [compTurn_two1]
  refine wpAny_bind (wpAny_standAt (wpAny_bind (wpAny_mono (turn n s hI) (fun r s₁ h₁ => ?_) fun _ _ h' => h')))
  cases r with
  | none => exact wpAny_pure h₁
  | some v =>
    refine wpAny_bind (wpAny_mono h₁ (fun _ s₀ h₀ => ?_) fun _ _ h' => h')
    refine wpAny_bind (wpAny_mono h₀ (fun _ s₂ h₂ => ?_) fun _ _ h' => h')
    exact wpAny_bind (wpAny_bind (wpAny_mono h₂ (fun x s₄ h₄ => wpAny_bind (wpAny_mono h₄ (fun _ s₅ h₅ => wpAny_pure (wpAny_pure ⟨rfl, h₅⟩)) fun _ _ h' => h')) fun _ _ h' => h'))
theorem two_loop0 {elt t1 i1 t2 i2 : Expr} {scope : Scope} {pos : Pos} {it acc : Value} {env : Env} (I : Nat → Shared → Prop) (hs : ∀ x, foldedSetIterable i2 env x = pure x)
    (turn : ∀ n s, I n s → wpAny (model prog w) A (pyNext it) (fun r s₁ => match r with
      | none => R (.ok .next) s₁
      | some v => wpAny (model prog w) A (letOwnedTupleGo t1 it v) (fun _ s₀ => wpAny (model prog w) A (assign t1 env v) (fun _ s₂ =>
          wpAny (model prog w) A (eval i2 env) (fun x s₃ => wpAny (model prog w) A (pyIter x) (fun it2 s₄ =>
              codeAny (model prog w) A (.compStart (TwoC elt t1 i1 t2 i2 scope pos) 1 it2 acc env)
                (fun r s' => match r with | .ok _ => ∃ m, m < n ∧ I m s' | .error e => cameBackBy (model prog w) A env (notedBy (model prog w) A env fun e s' => R (.error e) s') e s') s₄)
              (notedBy (model prog w) A env fun e s' => R (.error e) s') s₃) (notedBy (model prog w) A env fun e s' => R (.error e) s') s₂) (notedBy (model prog w) A env fun e s' => R (.error e) s') s₀)
            (notedBy (model prog w) A env fun e s' => R (.error e) s') s₁) (notedBy (model prog w) A env fun e s' => R (.error e) s') s)
    (n : Nat) (h : I n s) : codeAny (model prog w) A (.compLoop (TwoC elt t1 i1 t2 i2 scope pos) 0 it acc env) R s := by
  refine codeAny_loop rfl I (fun n s hI => ?_) n h
  show wpAny _ A ((compTurn (TwoC elt t1 i1 t2 i2 scope pos) 0 it acc env).onRaise (fun x => do noteFrame x env; theTreesLotGoes x)) _ _ s
  refine wpAny_noted ?_
  rw [compTurn_two0]
  refine wpAny_bind (wpAny_standAt (wpAny_bind (wpAny_mono (turn n s hI) (fun r s₁ h₁ => ?_) fun _ _ h' => h')))
  cases r with
  | none => exact wpAny_pure h₁
  | some v =>
    refine wpAny_bind (wpAny_mono h₁ (fun _ s₀ h₀ => ?_) fun _ _ h' => h')
    refine wpAny_bind (wpAny_mono h₀ (fun _ s₂ h₂ => ?_) fun _ _ h' => h')
    refine wpAny_bind (wpAny_mono h₂ (fun x s₃ h₃ => ?_) fun _ _ h' => h')
    refine wpAny_bind (wpAny_standAt (wpAny_bind (wpAny_of_eq (hs x) (wpAny_bind (wpAny_holding (wpAny_mono h₃ (fun it2 s₄ h₄ => ?_) fun _ _ h' => h'))))))
    rw [← mark_none A] at h₄
    refine wpAny_bind (wpAny_runOwn (codeAny_mono h₄ fun r s' hr => ?_))
    cases r with
    | ok f => exact wpAny_pure ⟨rfl, hr⟩
    | error e => exact hr
theorem two_start1 {elt t1 i1 t2 i2 : Expr} {scope : Scope} {pos : Pos} {it acc : Value} {env : Env}
    (h0 : codeAny (model prog w) A (.compLoop (TwoC elt t1 i1 t2 i2 scope pos) 1 it acc env) R s)
    (h : wpAny (model prog w) A (pyIter it) (fun it' s' => codeAny (model prog w) A (.compLoop (TwoC elt t1 i1 t2 i2 scope pos) 1 it' acc env) R s')
      (notedBy (model prog w) A env fun x s' => R (.error x) s') s) :
    codeAny (model prog w) A (.compStart (TwoC elt t1 i1 t2 i2 scope pos) 1 it acc env) R s := by
  refine codeAny_of_tree ?_
  show wpAny _ _ ((compStart (TwoC elt t1 i1 t2 i2 scope pos) 1 it acc env).onRaise (fun x => do noteFrame x env; standAt theWindowsPlace)) _ _ s
  refine wpAny_notedAt ?_
  unfold compStart
  show wpAny _ _ (ask >>= _) _ _ s
  refine wpAny_bind (wpAny_askSetting (wpAny_ite ?_))
  split
  · first
      | exact wpAny_bind (wpAny_pure (wpAny_pure (And.intro rfl h0)))
      | exact wpAny_pure (And.intro rfl h0)
  · first
      | exact wpAny_bind (wpAny_rule (wpAny_bind (wpAny_standAt (wpAny_bind (wpAny_mono h (fun it' s' h' => wpAny_pure (And.intro rfl h')) fun _ _ x => x)))))
      | (refine wpAny_bind (wpAny_rule ?_); show wpAny _ _ (standAt i2.pos >>= _) _ _ s; exact wpAny_bind (wpAny_standAt (wpAny_bind (wpAny_mono h (fun it' s' h' => wpAny_pure (And.intro rfl h')) fun _ _ x => x))))
end
end
section
section
variable {prog : Program} {w : World} {A : Around} {E : Value → Shared → Prop} {R : Result → Shared → Prop} {s : Shared} {env : Env}
noncomputable def Els (bad : List Addr) (G : Nat → Nat → Addr → Obj → Prop) (h : Heap) : List Value → List (Nat × Nat) → Prop :=
  Paired fun v p => (Ex2 fun T o => Al4 (v = .ref T) (h.get? T = some o) (G p.1 p.2 T o) (T ∉ bad))
theorem Els.up {bad bad' : List Addr} {G : Nat → Nat → Addr → Obj → Prop} {h h' : Heap} {vs : List Value} {ps : List (Nat × Nat)} (x : Els bad G h vs ps) (k : ∀ b o, b ∉ bad → h.get? b = some o → h'.get? b = some o)
    (kb : ∀ b o, h.get? b = some o → b ∉ bad → b ∉ bad') : Els bad' G h' vs ps :=
  paired_mono (fun _ _ ⟨T, o, e, g, q, n⟩ => ⟨T, o, e, k T o n g, q, kb T o g n⟩) x
noncomputable def TwoSrc (prog : Program) (w : World) (A : Around) (t2 elt : Expr) (cenv : Env) (D I : Addr) (G : Nat → Nat → Addr → Obj → Prop) (i n2 : Nat) (s₁ : Shared) (it2 : Value) (s₄ : Shared) : Prop :=
  ∃ (I2 : Addr) (P2 Md2 : Nat → Value → Heap → Prop) (St2 : Nat → Heap → Prop) (J : (Str → Option Value) → Prop) (h₄ : Heap) (tk₄ : Nat) (m₄ : Str → Option Value), Al5 (it2 = .ref I2) (KTurns prog w A t2 I2 [I2] [I2] n2 P2 Md2 St2) ((∀ j h, St2 j h → ∃ o, h.get? I2 = some o)) ((∀ (s : Shared) (Q : Value → Shared → Prop) (E : Value → Shared → Prop), St2 0 s.heap → Q (.ref I2) s → wpAny (model prog w) A (pyIter (.ref I2)) Q E s)) (Al5 (St2 0 h₄) (s₁.heap.get? I2 = none) (s₄ = { s₁ with heap := h₄, toks := tk₄ }) (h₄.Ns cenv.locals m₄) (Al3 (J m₄) ((∀ b o, b ≠ cenv.locals → s₁.heap.get? b = some o → h₄.get? b = some o)) (∀ (E'' : Value → Shared → Prop) j v2 h₅ tk₅ m₅, j < n2 → P2 j v2 h₅ → h₅.Ns cenv.locals m₅ → J m₅ → (∀ b o, b ≠ cenv.locals → b ≠ I2 → b ≠ D → h₄.get? b = some o → h₅.get? b = some o) →
      wpAny (model prog w) A (assign t2 cenv v2) (fun _ s₆ => wpAny (model prog w) A (eval elt cenv) (fun y s₇ => ((Ex2 fun T o => Al4 (y = .ref T) (s₇.heap.get? T = some o) (G i j T o) (h₅.get? T = none))) ∧
        (Ex3 fun h' tk' m' => Al4 (s₇ = { s₄ with heap := h', toks := tk' }) (h'.Ns cenv.locals m') (J m') (∀ b o, b ≠ cenv.locals → h₅.get? b = some o → h'.get? b = some o))) E'' s₆) E'' { s₄ with heap := h₅, toks := tk₅ })))

noncomputable def pairsTo (cnt : Nat → Nat) (n : Nat) : List (Nat × Nat) := (List.range n).flatMap fun i => (List.range (cnt i)).map fun j => (i, j)
theorem pairsTo_succ (cnt : Nat → Nat) (n : Nat) : pairsTo cnt (n + 1) = pairsTo cnt n ++ (List.range (cnt n)).map fun j => (n, j) := by
  unfold pairsTo
  rw [List.range_succ, List.flatMap_append]
  simp


theorem two_walk {elt t1 i1 t2 i2 : Expr} {scope : Scope} {pos : Pos} {I D : Addr} {n : Nat} {P Md : Nat → Value → Heap → Prop} {St : Nat → Heap → Prop} {cenv : Env} {m : Str → Option Value}
    (W : KTurns prog w A t1 I [I] [I] n P Md St) (live : ∀ j h, St j h → ∃ o, h.get? I = some o) (cnt : Nat → Nat) (G : Nat → Nat → Addr → Obj → Prop) (hs : ∀ x, foldedSetIterable i2 cenv x = pure x) (hsz : ∀ i j, i < n → j < cnt i → (pairsTo cnt i).length + j ≤ sizeLine)
    (hDC : D ≠ cenv.locals) (hDI : D ≠ I) (hCI : cenv.locals ≠ I) (hst : St 0 s.heap) (hacc : s.heap.PlainList D #[]) (hn : s.heap.Ns cenv.locals m)
    (turn : ∀ (E' : Value → Shared → Prop) i v h₁ tk₁ m₁, i < n → P i v h₁ → h₁.Ns cenv.locals m₁ → (∀ b o, b ≠ cenv.locals → b ≠ I → b ≠ D → s.heap.get? b = some o → h₁.get? b = some o) →
      wpAny (model prog w) A (assign t1 cenv v) (fun _ s₂ => wpAny (model prog w) A (eval i2 cenv) (fun x s₃ => wpAny (model prog w) A (pyIter x) (fun it2 s₄ => TwoSrc prog w A t2 elt cenv D I G i (cnt i) { s with heap := h₁, toks := tk₁ } it2 s₄) E' s₃) E' s₂) E' { s with heap := h₁, toks := tk₁ })
    (hR : ∀ h' tk m' vs, h'.Ns cenv.locals m' → h'.PlainList D (List.toArray vs) → Els [cenv.locals, I, D] G h' vs (pairsTo cnt n) → (∀ b o, b ≠ cenv.locals → b ≠ I → b ≠ D → s.heap.get? b = some o → h'.get? b = some o) → R (.ok .next) { s with heap := h', toks := tk }) :
    codeAny (model prog w) A (.compLoop (TwoC elt t1 i1 t2 i2 scope pos) 0 (.ref I) (.ref D) cenv) R s := by
  refine two_loop0
    (fun k s' => (Ex5 fun h' tk m' vs i => Al5 (s' = { s with heap := h', toks := tk }) (St i h') (h'.PlainList D (List.toArray vs)) (h'.Ns cenv.locals m') (Al4 (Els [cenv.locals, I, D] G h' vs (pairsTo cnt i)) (i ≤ n) (k = n + 1 - i) (∀ b o, b ≠ cenv.locals → b ≠ I → b ≠ D → s.heap.get? b = some o → h'.get? b = some o)))) hs ?_ (n + 1)
    ⟨s.heap, s.toks, m, [], 0, rfl, hst, hacc, hn, .nil, Nat.zero_le _, rfl, fun _ _ _ _ _ e => e⟩
  rintro k s' ⟨H, tk, m', vs, i, rfl, hst', hacc', hn', hF, hi, rfl, hk⟩
  have nI : ∀ b, b ≠ I → b ∉ [I] := fun b hb h => hb (List.mem_singleton.mp h)
  by_cases hlt : i < n
  · refine W.item i _ _ _ hlt hst' fun v h₁ tk₁ hMd hk₁ => ?_
    refine W.go i v _ _ _ hMd fun h₂ hP hst₂ hk₂ => ?_
    have up₂ : ∀ b o, b ≠ I → H.get? b = some o → h₂.get? b = some o := fun b o hb x => hk₂ b o (nI b hb) (hk₁ b o (nI b hb) x)
    have hn₂ : h₂.Ns cenv.locals m' := hn'.at' fun o e => up₂ _ o hCI e
    have hacc₂ : h₂.PlainList D (List.toArray vs) := hacc'.at fun o e => up₂ _ o hDI e
    have hF₂ : Els [cenv.locals, I, D] G h₂ vs (pairsTo cnt i) := hF.up (fun b o hb e => up₂ b o (fun q => hb (by simp [q])) e) fun _ _ _ q => q
    refine wpAny_mono (turn _ i v h₂ tk₁ m' hlt hP hn₂ fun b o hbC hbI hbD e => up₂ b o hbI (hk b o hbC hbI hbD e)) (fun _ s₃ h₃ => wpAny_mono h₃ (fun x s₄ h₄ => wpAny_mono h₄ (fun it2 s₅ h₅ => ?_) fun _ _ e => e) fun _ _ e => e) fun _ _ e => e
    obtain ⟨I2, P2, Md2, St2, J, h₄, tk₄, m₄, rfl, W2, live2, self2, hs20, hI2, rfl, hn₄, hJ₄, hk₄, turn2⟩ := h₅
    have hIex := live _ _ hst₂
    have hII2 : I ≠ I2 := fun e => by obtain ⟨o, ho⟩ := hIex; rw [e] at ho; have : h₂.get? I2 = none := hI2; rw [this] at ho; cases ho
    have hDI2 : D ≠ I2 := fun e => by obtain ⟨q, ho⟩ := hacc₂; rw [e] at ho; have : h₂.get? I2 = none := hI2; rw [this] at ho; cases ho
    have hCI2 : cenv.locals ≠ I2 := fun e => by obtain ⟨o, _, _, ho, _⟩ := hn₂; rw [e] at ho; have : h₂.get? I2 = none := hI2; rw [this] at ho; cases ho
    have hst₄ : St (i + 1) h₄ := W.frame _ _ _ hst₂ fun b hb o e => hk₄ b o (by rw [List.mem_singleton.mp hb]; exact Ne.symm hCI) e
    have hacc₄ : h₄.PlainList D (List.toArray vs) := hacc₂.at fun o e => hk₄ _ o hDC e
    have hF₄ : Els [cenv.locals, I, D, I2] G h₄ vs (pairsTo cnt i) := hF₂.up (fun b o hb e => hk₄ b o (fun q => hb (by simp [q])) e) fun b o e q => by
      have : b ≠ I2 := fun z => by rw [z] at e; have h0 : h₂.get? I2 = none := hI2; rw [h0] at e; cases e
      simp only [List.mem_cons, List.not_mem_nil, or_false, not_or] at q ⊢
      exact ⟨q.1, q.2.1, q.2.2, this⟩
    have loop : ∀ s₆ : Shared, s₆ = { s with heap := h₄, toks := tk₄ } → codeAny (model prog w) A (.compLoop (TwoC elt t1 i1 t2 i2 scope pos) 1 (.ref I2) (.ref D) cenv)
        (fun r s' => match r with | .ok _ => ∃ m_1, m_1 < n + 1 - i ∧ (Ex5 fun h' tk m' vs i => Al5 (s' = { s with heap := h', toks := tk }) (St i h') (h'.PlainList D (List.toArray vs)) (h'.Ns cenv.locals m') (Al4 (Els [cenv.locals, I, D] G h' vs (pairsTo cnt i)) (i ≤ n) (m_1 = n + 1 - i) ((∀ b o, b ≠ cenv.locals → b ≠ I → b ≠ D → s.heap.get? b = some o → h'.get? b = some o)))) | .error e => cameBackBy (model prog w) A cenv (notedBy (model prog w) A cenv fun e s' => R (.error e) s') e s') s₆ := by
      rintro s₆ rfl
      refine two_loop1
        (fun k s' => (Ex5 fun h' tk m' ws j => Al5 (s' = { s with heap := h', toks := tk }) (St2 j h') (St (i + 1) h') (h'.PlainList D (List.toArray ws)) (Al5 (h'.Ns cenv.locals m') (J m') (Els [cenv.locals, I, D, I2] G h' ws (pairsTo cnt i ++ (List.range j).map fun j => (i, j))) (j ≤ cnt i) ((k = cnt i + 1 - j) ∧ (∀ b o, b ≠ cenv.locals → b ≠ I2 → b ≠ D → h₄.get? b = some o → h'.get? b = some o))))) ?_ (cnt i + 1)
        ⟨h₄, tk₄, m₄, vs, 0, rfl, hs20, hst₄, hacc₄, hn₄, hJ₄, by simpa using hF₄, Nat.zero_le _, rfl, fun _ _ _ _ _ e => e⟩
      rintro k s' ⟨H', tk', m₆, ws, j, rfl, hs2, hst₆, hacc₆, hn₆, hJ₆, hF₆, hj, rfl, hk₆⟩
      have nI2 : ∀ b, b ≠ I2 → b ∉ [I2] := fun b hb h => hb (List.mem_singleton.mp h)
      by_cases hlt2 : j < cnt i
      · refine W2.item j _ _ _ hlt2 hs2 fun v2 h₇ tk₇ hMd7 hk₇ => ?_
        refine W2.go j v2 _ _ _ hMd7 fun h₈ hP8 hs8 hk₈ => ?_
        have up₈ : ∀ b o, b ≠ I2 → H'.get? b = some o → h₈.get? b = some o := fun b o hb x => hk₈ b o (nI2 b hb) (hk₇ b o (nI2 b hb) x)
        have hn₈ : h₈.Ns cenv.locals m₆ := hn₆.at' fun o e => up₈ _ o hCI2 e
        have hacc₈ : h₈.PlainList D (List.toArray ws) := hacc₆.at fun o e => up₈ _ o hDI2 e
        have hst₈ : St (i + 1) h₈ := W.frame _ _ _ hst₆ fun b hb o e => up₈ b o (by rw [List.mem_singleton.mp hb]; exact hII2) e
        have hF₈ : Els [cenv.locals, I, D, I2] G h₈ ws (pairsTo cnt i ++ (List.range j).map fun j => (i, j)) := hF₆.up (fun b o hb e => up₈ b o (fun q => hb (by simp [q])) e) fun _ _ _ q => q
        refine wpAny_mono (turn2 _ j v2 h₈ tk₇ m₆ hlt2 hP8 hn₈ hJ₆ fun b o hbC hbI hbD e => up₈ b o hbI (hk₆ b o hbC hbI hbD e)) (fun _ s₉ h₉ => wpAny_mono h₉ (fun y s₁₀ h₁₀ => ?_) fun _ _ e => e) fun _ _ e => e
        obtain ⟨⟨T, o, rfl, hTo, hG, hTn⟩, h', tk'', m'', rfl, hn', hJ', hk'⟩ := h₁₀
        have hacc' : h'.PlainList D (List.toArray ws) := hacc₈.at fun o e => hk' _ o hDC e
        have hlen := hF₈.length
        rw [List.length_append, List.length_map, List.length_range] at hlen
        refine wpAny_list_append_plain (hsz := by have := hsz i j hlt hlt2; rw [List.size_toArray, hlen]; exact this) hacc' fun h₁₁ hl₁₁ hs₁₁ => ?_
        have hTb : T ∉ [cenv.locals, I, D, I2] := by
          have ex : ∀ b, (∃ o, h₈.get? b = some o) → T ≠ b := fun b ⟨o, ho⟩ e => by rw [← e, hTn] at ho; cases ho
          simp only [List.mem_cons, List.not_mem_nil, or_false, not_or]
          refine ⟨ex _ ?_, ex _ (live _ _ hst₈), ex _ ?_, ex _ (live2 _ _ hs8)⟩
          · obtain ⟨o, _, _, ho, _⟩ := hn₈; exact ⟨o, ho⟩
          · obtain ⟨q, ho⟩ := hacc₈; exact ⟨_, ho⟩
        refine ⟨cnt i + 1 - (j + 1), Nat.sub_lt_sub_left (Nat.lt_succ_of_lt hlt2) (Nat.lt_succ_self j), h₁₁, _, m'', ws ++ [.ref T], j + 1, rfl, W2.frame _ _ _ hs8 fun b hb o e => hs₁₁.extBut b o (by rw [List.mem_singleton.mp hb]; exact Ne.symm hDI2) (hk' b o (by rw [List.mem_singleton.mp hb]; exact Ne.symm hCI2) e),
          W.frame _ _ _ hst₈ fun b hb o e => hs₁₁.extBut b o (by rw [List.mem_singleton.mp hb]; exact Ne.symm hDI) (hk' b o (by rw [List.mem_singleton.mp hb]; exact Ne.symm hCI) e), by simpa using hl₁₁, hn'.sameBut hs₁₁ (Ne.symm hDC), hJ', ?_, hlt2, rfl,
          fun b o hbC hbI hbD e => hs₁₁.extBut b o hbD (hk' b o hbC (up₈ b o hbI (hk₆ b o hbC hbI hbD e)))⟩
        rw [List.range_succ, List.map_append, ← List.append_assoc]
        refine Paired.snoc (hF₈.up (fun b o hb e => hs₁₁.extBut b o (fun q => hb (by simp [q])) (hk' b o (fun q => hb (by simp [q])) e)) fun _ _ _ q => q) ⟨T, o, rfl, hs₁₁.extBut _ _ (fun q => hTb (by simp [q])) hTo, hG, hTb⟩
      · have hjn : j = cnt i := by omega
        subst hjn
        refine W2.done _ _ _ hs2 fun h₇ tk₇ hk₇ => ?_
        have up₇ : ∀ b o, b ≠ I2 → H'.get? b = some o → h₇.get? b = some o := fun b o hb x => hk₇ b o (nI2 b hb) x
        refine ⟨n + 1 - (i + 1), Nat.sub_lt_sub_left (Nat.lt_succ_of_lt hlt) (Nat.lt_succ_self i), h₇, _, m₆, ws, i + 1, rfl, W.frame _ _ _ hst₆ fun b hb o e => up₇ b o (by rw [List.mem_singleton.mp hb]; exact hII2) e, hacc₆.at fun o e => up₇ _ o hDI2 e, hn₆.at' fun o e => up₇ _ o hCI2 e, ?_, hlt, rfl,
          fun b o hbC hbI hbD e => ?_⟩
        · rw [pairsTo_succ]
          exact hF₆.up (fun b o hb e => up₇ b o (fun q => hb (by simp [q])) e) fun b o e q => by
            simp only [List.mem_cons, List.not_mem_nil, or_false, not_or] at q ⊢
            exact ⟨q.1, q.2.1, q.2.2.1⟩
        · have e2 := up₂ b o hbI (hk b o hbC hbI hbD e)
          have hb2 : b ≠ I2 := fun z => by rw [z] at e2; have h0 : h₂.get? I2 = none := hI2; rw [h0] at e2; cases e2
          exact up₇ b o hb2 (hk₆ b o hbC hb2 hbD (hk₄ b o hbC e2))
    exact two_start1 (loop _ rfl) (self2 _ _ _ hs20 (loop _ rfl))
  · have hin : i = n := by omega
    subst hin
    refine W.done _ _ _ hst' fun h₁ tk₁ hk₁ => ?_
    exact hR h₁ tk₁ m' vs (hn'.at' fun o e => hk₁ _ o (nI _ hCI) e) (hacc'.at fun o e => hk₁ _ o (nI _ hDI) e) (hF.up (fun b o hb e => hk₁ b o (nI b fun q => hb (by simp [q])) e) fun _ _ _ q => q) fun b o hbC hbI hbD e => hk₁ b o (nI b hbI) (hk b o hbC hbI hbD e)
end
end
section
section
variable {prog : Program} {w : World} {A : Around} {E : Value → Shared → Prop} {R : Result → Shared → Prop} {s : Shared} {env : Env}
noncomputable def Fin2 (G : Addr → Nat → Nat → Addr → Obj → Prop) (cnt : Nat → Nat) (Q : Value → Shared → Prop) (I : Addr) (n : Nat) (s₂ : Shared) : Prop :=
  ∀ D C h' tk vs, s₂.heap.objs.size ≤ D → D < C → h'.PlainList D (List.toArray vs) → Paired (fun v (p : Nat × Nat) => (Ex2 fun T o => Al3 (v = Value.ref T) (h'.get? T = some o) (G C p.1 p.2 T o))) vs (pairsTo cnt n) →
    (∀ b o, b ≠ I → s₂.heap.get? b = some o → h'.get? b = some o) → Q (.ref D) { s₂ with heap := h', toks := tk }
noncomputable def LcSrc2 (prog : Program) (w : World) (A : Around) (env : Env) (t1 i2 t2 elt : Expr) (scope : Scope) (cl : List (Str × Addr)) (cnt : Nat → Nat) (G : Addr → Nat → Nat → Addr → Obj → Prop) (Q : Value → Shared → Prop) (it : Value) (s₂ : Shared) : Prop :=
  (Ex5 fun (I : Addr) (n : Nat) (P Md : Nat → Value → Heap → Prop) (St : Nat → Heap → Prop) => Al5 (it = .ref I) (KTurns prog w A t1 I [I] [I] n P Md St) ((∀ j h, St j h → ∃ o, h.get? I = some o)) ((∀ (s : Shared) (Q : Value → Shared → Prop) (E : Value → Shared → Prop), St 0 s.heap → Q (.ref I) s → wpAny (model prog w) A (pyIter (.ref I)) Q E s)) (Al5 (St 0 s₂.heap) (I < s₂.heap.objs.size) ((∀ i j, i < n → j < cnt i → (pairsTo cnt i).length + j ≤ sizeLine)) ((∀ C D (E' : Value → Shared → Prop) i v h₁ tk₁ m₁, s₂.heap.objs.size < C → D < C → s₂.heap.objs.size ≤ D → i < n → P i v h₁ → h₁.Ns C m₁ → (∀ b o, b ≠ I → s₂.heap.get? b = some o → h₁.get? b = some o) →
      wpAny (model prog w) A (assign t1 (compEnvC scope cl C env) v) (fun _ s₂' => wpAny (model prog w) A (eval i2 (compEnvC scope cl C env)) (fun x s₃ => wpAny (model prog w) A (pyIter x) (fun it2 s₄ => TwoSrc prog w A t2 elt (compEnvC scope cl C env) D I (G C) i (cnt i) { s₂ with heap := h₁, toks := tk₁ } it2 s₄) E' s₃) E' s₂') E' { s₂ with heap := h₁, toks := tk₁ })) (Fin2 G cnt Q I n s₂)))
theorem ListComp_turns2 {elt t1 i1 t2 i2 : Expr} {scope : Scope} {cl : List (Str × Addr)} {pos : Pos} {Q : Value → Shared → Prop} (cnt : Nat → Nat) (G : Addr → Nat → Nat → Addr → Obj → Prop)
    (hclos : closureFor scope env = pure cl) (hcell : ∀ y ∈ scope.names, y.2 ≠ .cell) (hkind : scope.kind = .function)
    (hnames : ∀ y ∈ scope.names, y.2 = .local → scope.names.lookup y.1 = some .local)
    (h : wpAny (model prog w) A (eval i1 env) (fun xv s₁ => wpAny (model prog w) A (pyIter xv) (fun it s₂ => LcSrc2 prog w A env t1 i2 t2 elt scope cl cnt G Q it s₂) E s₁) E s)
    (hs : ∀ x, foldedSetIterable i1 env x = pure x) (hs2 : ∀ C x, foldedSetIterable i2 (compEnvC scope cl C env) x = pure x) :
    wpAny (model prog w) A (eval (TwoC elt t1 i1 t2 i2 scope pos) env) Q E s := by
  rw [eval_ListComp]
  refine wpAny_comprehension_free (use := none) rfl hs hclos hkind hnames (wpAny_mono h (fun xv s₁ h₁ => wpAny_mono h₁ (fun it s₂ h₂ => ?_) fun _ _ e => e) fun _ _ e => e)
  obtain ⟨I, n, P, Md, St, rfl, W, live, hself, hst, hI, hsz, turn, hQ⟩ := h₂
  refine wpAny_newObj_type (wpAny_newFunctionEnv hcell (by intro y hy; simp at hy) (fun h₁ hns₁ hsb₁ => ?_) hkind)
  dsimp only at hns₁ hsb₁ ⊢
  generalize hH2 : s₂.heap.push { cls := .type "list", dict := none, data := .seq ([] : List Value).toArray } = H2 at hns₁ hsb₁ ⊢
  have hC : H2.objs.size = s₂.heap.objs.size + 1 := by rw [← hH2, Heap.size_push]
  have hDl : s₂.heap.objs.size < H2.objs.size := by rw [hC]; exact Nat.lt_succ_self _
  have hDC : s₂.heap.objs.size ≠ H2.objs.size := Nat.ne_of_lt hDl
  have below : ∀ b, b < s₂.heap.objs.size → b ≠ H2.objs.size ∧ b ≠ s₂.heap.objs.size := fun b hb => ⟨by rw [hC]; exact Nat.ne_of_lt (Nat.lt_succ_of_lt hb), Nat.ne_of_lt hb⟩
  have old : ∀ b o, s₂.heap.get? b = some o → h₁.get? b = some o := fun b o e => hsb₁.extBut b o (below b (Heap.lt_size e)).1 (Heap.get?_push_of_some _ (hH2 ▸ Heap.get?_push_of_some _ e))
  have hacc : h₁.PlainList s₂.heap.objs.size #[] := ⟨_, hsb₁.extBut _ _ hDC (Heap.get?_push_of_some _ (hH2 ▸ Heap.get?_push_size _ rfl))⟩
  have hst₁ : St 0 h₁ := W.frame _ _ _ hst fun b _ o e => old b o e
  have loop : ∀ s₃ : Shared, s₃ = { s₂ with heap := h₁, toks := s₂.toks + ([] : List (Str × Value)).length } →
      codeAny (model prog w) A (.compLoop (TwoC elt t1 i1 t2 i2 scope pos) 0 (.ref I) (.ref s₂.heap.objs.size) (compEnvC scope cl H2.objs.size env))
        (compPost (model prog w) A E none Q (.ref s₂.heap.objs.size) H2.objs.size) s₃ := by
    rintro s₃ rfl
    refine two_walk (cenv := compEnvC scope cl H2.objs.size env) W live cnt (G H2.objs.size) (hs2 _) hsz hDC (Nat.ne_of_gt hI) (Nat.ne_of_gt (Nat.lt_trans hI hDl)) hst₁ hacc hns₁
      (fun E' i v h₁' tk₁ m₁ hi hP hn hk => turn _ _ E' i v h₁' tk₁ m₁ hDl hDl (Nat.le_refl _) hi hP hn fun b o hbI e => hk b o (below b (Heap.lt_size e)).1 hbI (below b (Heap.lt_size e)).2 (old b o e)) fun h' tk m' vs hn hl hF hk => ?_
    refine ⟨m', hn, fun h'' hs'' => hQ _ H2.objs.size h'' tk vs (Nat.le_refl _) hDl (hl.extBut hs''.extBut hDC) (paired_mono (fun v p x => ?_) hF) fun b o hbI e =>
      hs''.extBut b o (below b (Heap.lt_size e)).1 (hk b o (below b (Heap.lt_size e)).1 hbI (below b (Heap.lt_size e)).2 (old b o e))⟩
    obtain ⟨T, o, e, g, q, nb⟩ := x
    exact ⟨T, o, e, hs''.extBut T o (fun z => nb (by rw [z]; exact List.mem_cons_self ..)) g, q⟩
  exact codeAny_compStart_list (loop _ rfl) (hself _ _ _ hst₁ (loop _ rfl))
end
end
section
section
variable {prog : Program} {w : World} {A : Around} {E : Value → Shared → Prop} {s : Shared} {env : Env} {h₀ : Heap} {target : Expr} {body : List Stmt} {Q : Flow → Shared → Prop}
noncomputable def intsOn (a : Int) (n : Nat) : List Int := (List.range n).map fun i : Nat => a + (i : Int)
theorem kturns_lt {I : Addr} {fp wr : List Addr} {n : Nat} {P Md : Nat → Value → Heap → Prop} {St : Nat → Heap → Prop} (W : KTurns prog w A target I fp wr n P Md St) :
    KTurns prog w A target I fp wr n (fun i v h => i < n ∧ P i v h) (fun i v h => i < n ∧ Md i v h) St where
  sub := W.sub
  frame := W.frame
  item := fun i s Q E hi st hQ => W.item i s Q E hi st fun v h' tk hm hk => hQ v h' tk ⟨hi, hm⟩ hk
  go := fun i v s Q E hm hQ => W.go i v s Q E hm.2 fun h' hP st hk => hQ h' ⟨hm.1, hP⟩ st hk
  done := W.done
theorem iter_rangeB {r : Addr} {a b : Int} {t u z : Tok} {v : Str} {pv : Pos} {m₀ : Str → Option Value} {news : List (Addr × Obj)} (hr : IsRange s.heap r a b 1 t u z) (ha : -1000 ≤ a) (ha' : a ≤ 1000) (hb : -1000 ≤ b) (hb' : b ≤ 1000)
    (hh : A.handled = none) (F : Fr h₀ env.locals s.heap m₀) (N : News h₀ env.locals s.heap news)
    (rest₀ : ∀ I : Addr, (∀ p ∈ news, p.1 < I) → ItemsRest prog w A E h₀ env (.Name v pv) body Q s [(I, "range_iterator")] [] ((intsOn a (b - a).toNat).map fun y => Itm.tok (Value.int y)) m₀ news) :
    wpAny (model prog w) A (pyIter (.ref r)) (fun it s₂ => TurnsAt prog w A h₀ env (.Name v pv) body Q E it s₂) E s := by
  refine wpAny_pyIter_range hr (small_one (by omega) (by omega) (by omega) (by omega)) ?_
  have hn : Builtin.Range.rangeSize a b 1 = ((b - a).toNat : Int) := by rw [rangeSize_one]; split <;> omega
  rw [hn]
  refine ktg_core (tk0 := s.toks) (keep := []) (kturns_lt (KTurns.ofWalks (Walks.range hh s.heap.objs.size a 1 (b - a).toNat) fun i v s Q E st q => wpAny_of_eq (a := ()) rfl q)) (by unfold intsOn; rw [List.length_map, List.length_map, List.length_range]) ?_ ?_ ?_ ?_ ?_ ?_ ?_ ?st (F.push _) (fun p hp => ⟨Heap.get?_push_of_some _ (N p hp).1, (N p hp).2⟩) trivial (rest₀ _ fun p hp => Heap.lt_size (N p hp).1)
  case st =>
    show IsRangeIter _ _ _ _ _
    rw [show a + ((0 : Nat) : Int) * 1 = a by omega, show (((b - a).toNat : Nat) : Int) - ((0 : Nat) : Int) = ((b - a).toNat : Nat) by omega]
    exact Heap.get?_push_size _ rfl
  · rintro i v h ⟨hi, t, rfl⟩
    refine ⟨Itm.tok (Value.int (a + i)), ?_, t, by rw [Int.mul_one]⟩
    unfold intsOn
    rw [List.getElem?_map, List.getElem?_map, List.getElem?_range hi]
    rfl
  · rintro i h hit
    exact ⟨[(s.heap.objs.size, _)], ⟨⟨rfl, rfl⟩, trivial⟩, fun p hp => by rw [List.mem_singleton.mp hp]; exact hit⟩
  · intro b hb
    have hb' : b = s.heap.objs.size := by simpa using hb
    rw [hb']
    exact ⟨List.mem_cons_self .., next_is_new F⟩
  · intro b hb
    simpa using hb
  · intro b hb
    have hb' : b = s.heap.objs.size := by simpa using hb
    exact .inl (by simp [hb'])
  · intro hI
    exact absurd F.ns.lt ((List.mem_singleton.mp hI) ▸ Nat.lt_irrefl _)
  · intro p hp hI
    exact absurd (Heap.lt_size (N p hp).1) ((List.mem_singleton.mp hI) ▸ Nat.lt_irrefl _)
theorem itemsRest_indI {ws : List (Addr × String)} {keep : List (Addr × Obj)} (J : List Int → (Str → Option Value) → List (Addr × Obj) → Prop)
    (step : ∀ q rest m news, J (q :: rest) m news → ∀ t h tk, Fr h₀ env.locals h m → AllObj ws (fun its => News h₀ env.locals h (its ++ news) →
      ∀ P : Flow → Shared → Prop, (∀ f s₂, UnrPostW h₀ env.locals { s with heap := h, toks := tk } its (fun m' n' => SubL keep n' ∧ J rest m' n') Q f s₂ → Shut P f s₂) →
      wpAny (model prog w) A (assign target env (.int q t)) (fun _ s₂ => wpAny (model prog w) A (execs body env) (Shut P) E s₂) E { s with heap := h, toks := tk }))
    (done : ∀ m news, J [] m news → ∀ h tk, Fr h₀ env.locals h m → News h₀ env.locals h news → Q .next { s with heap := h, toks := tk }) :
    ∀ {qs : List Int} m news, J qs m news → ItemsRest prog w A E h₀ env target body Q s ws keep (qs.map fun y => Itm.tok (Value.int y)) m news := by
  intro qs
  induction qs with
  | nil => exact fun m news hj => ItemsRest.zero (done m news hj)
  | cons q qs ih =>
    intro m news hj
    refine ItemsRest.tok fun t h tk F => ?_
    have z := step q qs m news hj t h tk F
    refine allObj_mono (fun its y N => ?_) z
    refine wpAny_mono (y N _ fun _ _ x => x) (fun _ s₂ h₂ => wpAny_mono h₂ (fun f s₃ h₃ => ?_) fun _ _ e => e) fun _ _ e => e
    have up : UnrEndW h₀ env.locals { s with heap := h, toks := tk } its (fun m' n' => SubL keep n' ∧ J qs m' n') s₃ →
        UnrEndW h₀ env.locals { s with heap := h, toks := tk } its (fun m' n' => SubL keep n' ∧ ItemsRest prog w A E h₀ env target body Q s ws keep (qs.map fun y => Itm.tok (Value.int y)) m' n') s₃ := by
      rintro ⟨h', tk', m', news', e, F', N', ho, hk, hj'⟩
      exact ⟨h', tk', m', news', e, F', N', ho, hk, ih m' news' hj'⟩
    cases f with
    | ret v => exact h₃
    | brk => exact h₃
    | next => exact up h₃
    | cont => exact up h₃
theorem mem_intsOn {a y : Int} {n : Nat} (h : y ∈ intsOn a n) : a ≤ y ∧ y < a + n := by
  unfold intsOn at h
  obtain ⟨i, hi, rfl⟩ := List.mem_map.mp h
  have := List.mem_range.mp hi
  omega
end
end
section
noncomputable def Above (l : Addr) (led : List (Addr × Obj)) : Prop := ∀ p ∈ led, l < p.1
theorem Above.off {l d : Addr} {led : List (Addr × Obj)} (a : Above l led) (h : d ≤ l) : ∀ p ∈ led, p.1 ≠ d := fun p hp => Nat.ne_of_gt (Nat.lt_of_le_of_lt h (a p hp))
theorem seqI_list_add : seqSlot? (.type "list") (dunderI "add") = pure (some (.builtin "list.__iadd__")) := PySem.seqSlot_of PySem.F.slot_list_iadd.lookup (by decide +kernel)
section
variable {prog : Program} {w : World} {A : Around} {E : Value → Shared → Prop} {s : Shared} {h₀ : Heap} {L D b : Addr} {m : Str → Option Value} {news : List (Addr × Obj)}
theorem iadd_lists {its ys : List Value} {n : Nat} {Q : Value → Shared → Prop} (F : Fr h₀ L s.heap m) (N : News h₀ L s.heap ((D, W.listOf its.toArray n) :: news)) (off : ∀ p ∈ news, p.1 ≠ D)
    (hb : s.heap.PlainList b ys.toArray) (hz : its.length + ys.length ≤ 1000)
    (h : ∀ h' n', Fr h₀ L h' m → News h₀ L h' ((D, W.listOf (its ++ ys).toArray n') :: news) → (∀ b o, b ≠ D → s.heap.get? b = some o → h'.get? b = some o) → Q (.ref D) { s with heap := h' }) :
    wpAny (model prog w) A (inplaceOp .Add (.ref D) (.ref b)) Q E s := by
  obtain ⟨n2, hb⟩ := hb
  have z := N _ (List.mem_cons_self ..)
  unfold inplaceOp
  refine wpAny_holding ?_
  have hfi : fillsInplaceSlot (.type "list") "add" (Operator.Add == .Add) = pure false := by
    unfold fillsInplaceSlot
    show (typeLookup (.type "list") (dunderI "add") >>= fun fi => pure (fi.isSome && !isSeqSlot fi)) = pure false
    rw [PySem.F.slot_list_iadd.lookup]
    show (pure (true && !isSeqSlot (some (.builtin "list.__iadd__"))) : Sem Bool) = pure false
    rw [show isSeqSlot (some (.builtin "list.__iadd__")) = true by decide +kernel]
    rfl
  refine wpAny_bind (wpAny_typeOf ⟨_, z.1, rfl⟩ (wpAny_bind (wpAny_of_eq hfi ?_)))
  show wpAny _ A (if false = true then _ else _) Q E s
  rw [if_neg Bool.false_ne_true]
  refine wpAny_bind (wpAny_binaryOp1_none (nm := "add") ⟨_, z.1, rfl⟩ ⟨_, hb, rfl⟩ noFill_list_add ?_)
  refine wpAny_bind (wpAny_of_eq seqI_list_add ?_)
  refine wpAny_bind (wpAny_rule ?_)
  refine call_meets PySem.F.slot_list_iadd ⟨_, z.1, rfl⟩ PySem.F.entry_list_iadd (PySem.F.args_list_iadd_2 _ _) (PySem.AutoSeq1.list___iadd___list_list_0 D its.toArray n b ys.toArray n2 ?_ ?_ ?_) ⟨z.1, hb, ?_⟩
  · unfold Builtin.List.listTooLong
    rw [List.size_toArray, List.size_toArray]
    rw [decide_eq_false (by rw [sizeLine_eq]; omega), Bool.and_false]
    exact Bool.false_ne_true
  · rw [List.size_toArray, sizeLine_eq]; omega
  · rw [List.size_toArray, List.size_toArray, sizeLine_eq]; omega
  have sb := Heap.SameBut.update s.heap D (Obj.mapSeq fun x => x ++ ys.toArray)
  have q := PySem.IsL.update z.1 fun x => x ++ ys.toArray
  rw [List.append_toArray] at q
  exact h _ _ (F.change sb z.2.1 z.2.2) (news_set (pre := []) N (fun p hp => by cases hp) off sb q) fun b o hb e => sb.extBut b o hb e
end
end
section
section
variable {prog : Program} {w : World} {A : Around} {E : Value → Shared → Prop} {s : Shared} {env : Env}
theorem src2_range {px : Pos} {x : Str} {i2 t2 elt : Expr} {scope : Scope} {cl : List (Str × Addr)} {Q : Value → Shared → Prop} {r : Addr} {a b : Int} {t u z : Tok} (cnt : Nat → Nat) (G : Addr → Nat → Nat → Addr → Obj → Prop) (hr : IsRange s.heap r a b 1 t u z) (ha : -1000 ≤ a) (ha' : a ≤ 1000) (hb : -1000 ≤ b) (hb' : b ≤ 1000)
    (hh : A.handled = none) (hsz : ∀ i j, i < (b - a).toNat → j < cnt i → (pairsTo cnt i).length + j ≤ sizeLine)
    (turn : ∀ C D I (E' : Value → Shared → Prop) i tv h₁ tk₁ m₁, s.heap.objs.size < C → D < C → s.heap.objs.size < D → s.heap.objs.size = I → i < (b - a).toNat → h₁.Ns C m₁ → (∀ b o, s.heap.get? b = some o → h₁.get? b = some o) →
      wpAny (model prog w) A (assign (.Name x px) (compEnvC scope cl C env) (.int (a + (i : Nat)) tv)) (fun _ s₂' => wpAny (model prog w) A (eval i2 (compEnvC scope cl C env)) (fun xv s₃ => wpAny (model prog w) A (pyIter xv) (fun it2 s₄ => TwoSrc prog w A t2 elt (compEnvC scope cl C env) D I (G C) i (cnt i) { s with heap := h₁, toks := tk₁ } it2 s₄) E' s₃) E' s₂') E' { s with heap := h₁, toks := tk₁ })
    (fin : ∀ D C h' tk vs, s.heap.objs.size ≤ D → D < C → h'.PlainList D (List.toArray vs) → Paired (fun v (p : Nat × Nat) => (Ex2 fun T o => Al3 (v = Value.ref T) (h'.get? T = some o) (G C p.1 p.2 T o))) vs (pairsTo cnt (b - a).toNat) → (∀ b o, s.heap.get? b = some o → h'.get? b = some o) → Q (.ref D) { s with heap := h', toks := tk }) :
    wpAny (model prog w) A (pyIter (.ref r)) (fun it s₂ => LcSrc2 prog w A env (.Name x px) i2 t2 elt scope cl cnt G Q it s₂) E s := by
  refine wpAny_pyIter_range hr (small_one (by omega) (by omega) (by omega) (by omega)) ?_
  have hn : Builtin.Range.rangeSize a b 1 = ((b - a).toNat : Int) := by rw [rangeSize_one]; split <;> omega
  rw [hn]
  have W := Walks.range (prog := prog) (w := w) hh s.heap.objs.size a 1 (b - a).toNat
  have up : ∀ b' o, s.heap.get? b' = some o → b' ≠ s.heap.objs.size ∧ (s.heap.push { cls := .type "range_iterator", data := .fields #[rawInt a, rawInt ((b - a).toNat : Int), rawInt 1] }).get? b' = some o := fun b' o e => ⟨Nat.ne_of_lt (Heap.lt_size e), Heap.get?_push_of_some _ e⟩
  refine ⟨s.heap.objs.size, (b - a).toNat, _, _, _, rfl, KTurns.ofWalks W fun i v s Q E st q => wpAny_of_eq (a := ()) rfl q, fun j h hit => ⟨_, hit⟩, fun s' Q E st q => W.self 0 s' Q E st q, ?st, by show _ < (Heap.push _ _).objs.size; rw [Heap.size_push]; exact Nat.lt_succ_self _, hsz, ?turn, ?fin⟩
  case st =>
    show IsRangeIter _ _ _ _ _
    rw [show a + ((0 : Nat) : Int) * 1 = a by omega, show (((b - a).toNat : Nat) : Int) - ((0 : Nat) : Int) = ((b - a).toNat : Nat) by omega]
    exact Heap.get?_push_size _ rfl
  case turn =>
    rintro C D E' i v h₁ tk₁ m₁ hC hDC hD hi ⟨tv, rfl⟩ hn hk
    dsimp only at hC hD hk
    rw [Heap.size_push] at hC hD
    rw [Int.mul_one]
    exact turn C D _ E' i tv h₁ tk₁ m₁ (Nat.lt_of_succ_lt hC) hDC (Nat.lt_of_succ_le hD) rfl hi hn fun b' o e => hk b' o (up b' o e).1 (up b' o e).2
  case fin =>
    intro D C h' tk vs hD hDC hpl hp hk
    dsimp only at hD hk
    rw [Heap.size_push] at hD
    exact fin D C h' tk vs (Nat.le_of_succ_le hD) hDC hpl hp fun b' o e => hk b' o (up b' o e).1 (up b' o e).2
theorem two_range {px : Pos} {x : Str} {elt : Expr} {cenv : Env} {s₁ : Shared} {D I : Addr} {G : Nat → Nat → Addr → Obj → Prop} {i n2 : Nat} {r : Addr} {a b : Int} {t u z : Tok} {m₃ : Str → Option Value} (J : (Str → Option Value) → Prop) (hr : IsRange s.heap r a b 1 t u z) (ha : -1000 ≤ a) (ha' : a ≤ 1000) (hb : -1000 ≤ b) (hb' : b ≤ 1000)
    (hh : A.handled = none) (hn2 : n2 = (b - a).toNat) (hs : (Ex2 fun h tk => s = { s₁ with heap := h, toks := tk })) (hsz : s₁.heap.objs.size ≤ s.heap.objs.size) (hns : s.heap.Ns cenv.locals m₃) (hJ : J m₃) (hk₃ : ∀ b o, b ≠ cenv.locals → s₁.heap.get? b = some o → s.heap.get? b = some o)
    (turn : ∀ I2 (E' : Value → Shared → Prop) j tv h₅ tk₅ m₅, I2 = s.heap.objs.size → j < n2 → h₅.Ns cenv.locals m₅ → J m₅ → (∀ b o, b ≠ cenv.locals → b ≠ D → s.heap.get? b = some o → h₅.get? b = some o) →
      wpAny (model prog w) A (assign (.Name x px) cenv (.int (a + (j : Nat)) tv)) (fun _ s₆ => wpAny (model prog w) A (eval elt cenv) (fun y s₇ => Kept (((Ex2 fun T o => Al4 (y = .ref T) (s₇.heap.get? T = some o) (G i j T o) (h₅.get? T = none))) ∧
        (Ex3 fun h' tk' m' => Al4 (s₇ = { s with heap := h', toks := tk' }) (h'.Ns cenv.locals m') (J m') (∀ b o, b ≠ cenv.locals → h₅.get? b = some o → h'.get? b = some o)))) E' s₆) E' { s with heap := h₅, toks := tk₅ }) :
    wpAny (model prog w) A (pyIter (.ref r)) (fun it2 s₄ => TwoSrc prog w A (.Name x px) elt cenv D I G i n2 s₁ it2 s₄) E s := by
  subst hn2
  refine wpAny_pyIter_range hr (small_one (by omega) (by omega) (by omega) (by omega)) ?_
  have hn : Builtin.Range.rangeSize a b 1 = ((b - a).toNat : Int) := by rw [rangeSize_one]; split <;> omega
  rw [hn]
  have W := Walks.range (prog := prog) (w := w) hh s.heap.objs.size a 1 (b - a).toNat
  obtain ⟨h, tk, rfl⟩ := hs
  refine ⟨_, _, _, _, J, _, tk, m₃, rfl, KTurns.ofWalks W fun i v s Q E st q => wpAny_of_eq (a := ()) rfl q, fun j h hit => ⟨_, hit⟩, fun s' Q E st q => W.self 0 s' Q E st q, ?st, Heap.get?_none_of_le hsz, rfl, hns.push _, hJ, fun b' o hb' e => Heap.get?_push_of_some _ (hk₃ b' o hb' e), ?turn⟩
  case st =>
    show IsRangeIter _ _ _ _ _
    rw [show a + ((0 : Nat) : Int) * 1 = a by omega, show (((b - a).toNat : Nat) : Int) - ((0 : Nat) : Int) = ((b - a).toNat : Nat) by omega]
    exact Heap.get?_push_size _ rfl
  case turn =>
    rintro E' j v2 h₅ tk₅ m₅ hj ⟨tv, rfl⟩ hn5 hJ5 hk5
    rw [Int.mul_one]
    exact turn _ E' j tv h₅ tk₅ m₅ rfl hj hn5 hJ5 fun b' o hbC hbD e => hk5 b' o hbC (Nat.ne_of_lt (Heap.lt_size e)) hbD (Heap.get?_push_of_some _ e)
end
theorem newTuple_V {M : Model} {A : Around} {E : Value → Shared → Prop} {s : Shared} {g h₀ : Heap} {L : Addr} {m : Str → Option Value} {news : List (Addr × Obj)} {vs : List Value} {Q : Value → Shared → Prop} (F : Fr h₀ L s.heap m) (N : News h₀ L s.heap news) (U : Upk g s.heap)
    (h : ∀ D h', Fr h₀ L h' m → News h₀ L h' ((D, ({ cls := .type "tuple", data := .seq vs.toArray } : Obj)) :: news) → (∀ p ∈ news, p.1 < D) → Upk g h' → g.get? D = none → Q (.ref D) { s with heap := h' }) (hz : vs.length ≤ sizeLine) : wpAny M A (newTuple vs) Q E s :=
  wpAny_newObj_type (h _ _ (F.push _) (N.push F _) (fun p hp => Heap.lt_size (N p hp).1) (fun b o e => Heap.get?_push_of_some _ (U b o e)) (by
    cases e : g.get? s.heap.objs.size with
    | none => rfl
    | some o => exact absurd (Heap.lt_size (U _ _ e)) (Nat.lt_irrefl _))) (by show vs.toArray.size ≤ sizeLine; rw [List.size_toArray]; exact hz)
noncomputable def Tups (led : List (Addr × Obj)) : Prop := ∀ p ∈ led, p.2.cls = .type "tuple"
theorem off_led {h₀ h : Heap} {L I : Addr} {o : Obj} {pre led : List (Addr × Obj)} (N : News h₀ L h ((I, o) :: (pre ++ led))) (ho : o.cls = .type "range_iterator") (hp : ∀ p ∈ pre, p.1 < I) (ht : Tups led) :
    ∀ p ∈ pre ++ led, ∀ q ∈ [(I, o)], p.1 ≠ q.1 := by
  intro p hpm q hq e
  rw [List.mem_singleton.mp hq] at e
  rcases List.mem_append.mp hpm with h1 | h1
  · exact absurd (hp p h1) (by rw [e]; exact Nat.lt_irrefl _)
  · have a := (N p (List.mem_cons_of_mem _ hpm)).1
    have b := (N _ (List.mem_cons_self ..)).1
    rw [e, b] at a
    have c := ht p h1
    rw [← Option.some.inj a, ho] at c
    exact absurd (Value.type.inj c) (by decide)
theorem pairsTo_len {cnt : Nat → Nat} (h : ∀ k, cnt k ≤ 10) : ∀ n, (pairsTo cnt n).length ≤ 10 * n
  | 0 => Nat.le_refl 0
  | n + 1 => by
    rw [pairsTo_succ, List.length_append, List.length_map, List.length_range]
    have := pairsTo_len h n
    have := h n
    omega
theorem none_upB {h h' : Heap} {C D : Addr} (k : ∀ b o, b ≠ C → h.get? b = some o → h'.get? b = some o) (hD : D ≠ C) (e : h'.get? D = none) : h.get? D = none := by
  cases hh : h.get? D with
  | none => rfl
  | some o => have q := k _ _ hD hh; rw [e] at q; cases q
end
section
noncomputable def PCallK (w : World) (f : Addr) (args : List Value) (kws : List (Str × Value)) (dd du : Nat) (pre : Heap → Prop) (post : Heap → Heap → Value → Prop) : Prop :=
  ∀ (p : Program) (loose : List Str) (mean : ExcName → Option Value) (mg mb : Str → Option Value) (dp un : Nat) (gd : Option (List Code)) (cn : Str) (cs : Scope) (a : Addr) (ccd : Value) (cl : List (Str × Addr)) (outer : List Env) (A₀ : Around) (base h₀ : Heap) (L : Addr) (m : Str → Option Value) (s : Heap) (gS : Array GenState) (dS : Drawn) (tS : Nat) (oS : OsState) (Q E : Value → Shared → Prop),
    Below A₀ base outer h₀ → Fr h₀ L s m → (Mine.hd.heap_39 w.params).In h₀ → Top p loose mean mg mb h₀ → cs.kind = .function → dp + dd < recursionLimit → un + du < cLine → pre s →
    (∀ v h' tk', (∀ b o, s.get? b = some o → h'.get? b = some o) → post s h' v → Q v { heap := h', gens := gS, drawn := dS, toks := tk', os := oS }) →
    wpAny (model PR w) (ktrTop dp un gd cn cs L a ccd cl outer) (call (.ref f) args kws) Q E { heap := s, gens := gS, drawn := dS, toks := tS, os := oS }
theorem PCallK.use {w : World} {f : Addr} {args : List Value} {kws : List (Str × Value)} {dd du : Nat} {pre : Heap → Prop} {post : Heap → Heap → Value → Prop} (C : PCallK w f args kws dd du pre post)
    {p : Program} {loose : List Str} {mean : ExcName → Option Value} {mg mb : Str → Option Value} {dp un : Nat} {gd : Option (List Code)} {cn : Str} {cs : Scope} {a : Addr} {ccd : Value} {cl : List (Str × Addr)} {outer : List Env} {A₀ : Around} {base h₀ : Heap} {L : Addr} {m : Str → Option Value} {s : Heap} {gS : Array GenState} {dS : Drawn} {tS : Nat} {oS : OsState} {Q E : Value → Shared → Prop} {news : List (Addr × Obj)}
    (B : Below A₀ base outer h₀) (F : Fr h₀ L s m) (N : News h₀ L s news) (X : (Mine.hd.heap_39 w.params).In h₀) (T : Top p loose mean mg mb h₀) (hk : cs.kind = .function) (hd : dp + dd < recursionLimit) (hu : un + du < cLine) (hp : pre s)
    (hret : ∀ v h' tk', (∀ b o, s.get? b = some o → h'.get? b = some o) → post s h' v → Fr h₀ L h' m → News h₀ L h' news → Q v { heap := h', gens := gS, drawn := dS, toks := tk', os := oS }) :
    wpAny (model PR w) (ktrTop dp un gd cn cs L a ccd cl outer) (call (.ref f) args kws) Q E { heap := s, gens := gS, drawn := dS, toks := tS, os := oS } :=
  C p loose mean mg mb dp un gd cn cs a ccd cl outer A₀ base h₀ L m s gS dS tS oS Q E B F X T hk hd hu hp fun v h' tk' k q => hret v h' tk' k q (fr_up F k) (news_up N k)
theorem item_at {prog : Program} {w : World} {A : Around} {E : Value → Shared → Prop} {s : Shared} {value slice : PySem.Expr} {l : Addr} {vs : List Value} {k : Int} {u : Tok} {v : Value} {Q : Value → Shared → Prop}
    (hl : s.heap.IsList l vs.toArray) (h0 : 0 ≤ k) (hhi : k < 2 ^ 63) (hx : vs[k.toNat]? = some v) (h : Q v s)
    (hs : subscripted slice false (.ref l) (.int k u) = operate [.ref l, .int k u] (getItem (.ref l) (.int k u))) :
    wpAny (model prog w) A (subscriptTail value slice (.ref l) (.int k u)) Q E s :=
  tail_any hl.typeIs slot_list_getitem.lookup (wpAny_getItem_list hl h0 hhi (by simpa using hx) h) hs
noncomputable def KeyOk (w : World) (kf : Addr) (P : Heap → Prop) (vs : List Value) (ks : List Int) : Prop :=
  ∀ (i : Nat) v, vs[i]? = some v → PCallK w kf [v] [] 12 60 P (fun _ _ r => ∃ t, r = .int (ks.getD i 0) t)
noncomputable def blK (g : List Int) (x : Int) : Nat → Int → Int → Int
  | 0, lo, _ => lo
  | n + 1, lo, hi => if lo < hi then (if g.getD ((lo + hi).fdiv 2).toNat 0 < x then blK g x n ((lo + hi).fdiv 2 + 1) hi else blK g x n lo ((lo + hi).fdiv 2)) else lo
noncomputable def brK (g : List Int) (x : Int) : Nat → Int → Int → Int
  | 0, lo, _ => lo
  | n + 1, lo, hi => if lo < hi then (if x < g.getD ((lo + hi).fdiv 2).toNat 0 then brK g x n lo ((lo + hi).fdiv 2) else brK g x n ((lo + hi).fdiv 2 + 1) hi) else lo
theorem mid_of {lo hi : Int} (h : lo < hi) : lo ≤ (lo + hi).fdiv 2 ∧ (lo + hi).fdiv 2 < hi := by
  rw [Int.fdiv_eq_ediv_of_nonneg _ (by decide)]; omega
theorem mid_fuel {lo hi : Int} {n : Nat} (h : hi - lo < (n : Int)) (c : lo < hi) : ∃ k, n = k + 1 := ⟨n - 1, by omega⟩
theorem mid_nat {lo hi z : Int} {k : Nat} (h0 : 0 ≤ lo) (h1 : hi ≤ (k : Int)) (m : lo ≤ z ∧ z < hi) : z.toNat < k := by omega
theorem mid_63 {lo hi z : Int} {k : Nat} (hn : k ≤ 1000) (h1 : hi ≤ (k : Int)) (m : lo ≤ z ∧ z < hi) : z < 2 ^ 63 := by omega
theorem mid_s {lo hi z : Int} (h0 : 0 ≤ lo) (m : lo ≤ z ∧ z < hi) : 0 ≤ z + 1 := by omega
theorem mid_a {lo hi z : Int} {n : Nat} (m : lo ≤ z ∧ z < hi) (h : hi - lo < ((n + 1 : Nat) : Int)) : hi - (z + 1) < (n : Int) := by omega
theorem mid_b {lo hi z : Int} {n : Nat} (m : lo ≤ z ∧ z < hi) (h : hi - lo < ((n + 1 : Nat) : Int)) : z - lo < (n : Int) := by omega
theorem kept_of {P : Prop} (h : P) : Kept P := h
theorem blK_succ (g : List Int) (x : Int) (n : Nat) (lo hi : Int) : blK g x (n + 1) lo hi = if lo < hi then (if g.getD ((lo + hi).fdiv 2).toNat 0 < x then blK g x n ((lo + hi).fdiv 2 + 1) hi else blK g x n lo ((lo + hi).fdiv 2)) else lo := rfl
theorem brK_succ (g : List Int) (x : Int) (n : Nat) (lo hi : Int) : brK g x (n + 1) lo hi = if lo < hi then (if x < g.getD ((lo + hi).fdiv 2).toNat 0 then brK g x n lo ((lo + hi).fdiv 2) else brK g x n ((lo + hi).fdiv 2 + 1) hi) else lo := rfl
end
section
example : True := by
  k_with_none
  k_with "LeaveF" => (refine leaveF_ (by k_asm) ?_; intro kk; (try dsimp only))
  k_with "Shut" => (refine shut (by assumption) ?_; (try dsimp only))
  k_with "execs cons" => (refine shutX ?_; intro tX PX hPX)
  k_with "exec For Name Call cons nil" => (k_here; refine held ?_)
  k_with "exec For Tuple Call cons nil" => (k_here; refine held ?_)
  k_with "exec For Name Name cons nil" => (k_here; refine held ?_)
  k_with "exec For Tuple Name cons nil" => (k_here; refine held ?_)
  k_with "exec While" => (k_here; refine held ?_)
  k_with "exec For Tuple Attribute cons nil" => (k_here; refine held ?_)
  trivial
local macro_rules | `(tactic| k_inst) => `(tactic| exact inst_up (by first | exact Fr.keep (by assumption) | exact fun _ _ e => e) (by assumption) (by assumption))
example : True := by
  k_with_none
  k_with "LeaveF" => (refine leaveF_ (by k_asm) ?_; intro kk; (try dsimp only))
  k_with "Shut" => (refine shut (by assumption) ?_; (try dsimp only))
  k_with "execs cons" => (refine shutX ?_; intro tX PX hPX)
  k_with "exec For Name Call cons nil" => (k_here; refine held ?_)
  k_with "exec For Tuple Call cons nil" => (k_here; refine held ?_)
  k_with "exec For Name Name cons nil" => (k_here; refine held ?_)
  k_with "exec For Tuple Name cons nil" => (k_here; refine held ?_)
  k_with "exec While" => (k_here; refine held ?_)
  k_with "exec For Tuple Attribute cons nil" => (k_here; refine held ?_)
  k_with "subscriptTail" => (k_here; (with_reducible show wpAny _ _ (subscriptTail _ _ (Value.ref _) (Value.int _ _)) _ _ _); refine held ?_)
  k_with "callWith ref" => (k_here; refine callWith_def (by assumption) ?_)
  trivial
noncomputable abbrev RowV := Int × Str × Int × Int
noncomputable def RowS (h : Heap) (v : Value) (q : RowV) : Prop := (Ex5 fun T t1 t2 t3 t4 => v = .ref T ∧ IsTup h T #[.int q.1 t1, .str q.2.1 t2, .int q.2.2.1 t3, .int q.2.2.2 t4])
noncomputable def CompAt (w : World) (h : Heap) (tc : Addr) (keys : List (Int × Int)) : Prop :=
  (Ex3 fun d tk kl => Al3 (h.get? tc = some (instObj 72 d)) (h.get? d = some (dictOf [{ hash := PyData.keyHash w.params (Str.ofString "comp_select_list"), key := .str (Str.ofString "comp_select_list") tk, val := .ref kl }] 1)) (ListedAt KeyAt h kl keys))
noncomputable abbrev cellLt (q r : RowV) (c : Int) : Prop := if c = 0 then q.1 < r.1 else if c = 1 then q.2.1.cps.toList < r.2.1.cps.toList else if c = 2 then q.2.2.1 < r.2.2.1 else q.2.2.2 < r.2.2.2
noncomputable def cmpF (l r : RowV) : List (Int × Int) → Int
  | [] => 0
  | k :: ks => if cellLt l r k.1 then -k.2 else if cellLt r l k.1 then k.2 else cmpF l r ks
theorem cmpF_lt {l r : RowV} {k : Int × Int} {ks : List (Int × Int)} (h : cellLt l r k.1) : cmpF l r (k :: ks) = -k.2 := by show (if _ then _ else _) = _; rw [if_pos h]
theorem cmpF_gt {l r : RowV} {k : Int × Int} {ks : List (Int × Int)} (h : ¬ cellLt l r k.1) (h2 : cellLt r l k.1) : cmpF l r (k :: ks) = k.2 := by show (if _ then _ else _) = _; rw [if_neg h, if_pos h2]
theorem cmpF_eq {l r : RowV} {k : Int × Int} {ks : List (Int × Int)} (h : ¬ cellLt l r k.1) (h2 : ¬ cellLt r l k.1) : cmpF l r (k :: ks) = cmpF l r ks := by show (if _ then _ else _) = _; rw [if_neg h, if_neg h2]
theorem int_end {a b : Int} {t : Tok} (h : a = b) : ∃ u, Value.int b t = Value.int a u := ⟨t, by rw [h]⟩
theorem inst_up {h h' : Heap} {x C dx : Addr} {od : Obj} (k : ∀ b o, h.get? b = some o → h'.get? b = some o) (h1 : h.get? x = some (instObj C dx)) (h2 : h.get? dx = some od) : InstAt h' x (instObj C dx) C (some od) := ⟨k _ _ h1, rfl, rfl, k _ _ h2⟩
set_option maxHeartbeats 16000000 in
theorem compare_spec {w : World} (tc lf rt : Addr) (keys : List (Int × Int)) (ql qr : RowV) (hcol : ∀ k ∈ keys, k.1 = 0 ∨ k.1 = 1 ∨ k.1 = 2 ∨ k.1 = 3) :
   PCall w 69 [.ref tc, .ref lf, .ref rt] 8 40 (fun h => CompAt w h tc keys ∧ RowS h (.ref lf) ql ∧ RowS h (.ref rt) qr) (fun _ _ v => ∃ t, v = .int (cmpF ql qr keys) t) := by
  unfold PCall
  intro p loose mean mg mb dp un gd cn cs' a ccd cl outer A₀ base h₀ L m s gS dS tS oS Q E B F X T hk hd hu hpre hret
  obtain ⟨⟨d, tk, kl, hi1, hi2, kvs, hkl, hkvs⟩, hl, hr⟩ := hpre
  refine wpAny_call ?_
  (refine' code_F ?k1 ?k2 ?k3 ?k5 ?kA ?kF ?kK ?k6 ?k7 ?k8 ?k9 ?kB ?_ ?c2 ?c3 ?c4 ?c5; (case kA => exact rfl); (case kF => exact rfl); (case kK => assumption); (case k1 => k_asm); (case k2 => k_asm); (case k3 => k_asm); (case k5 => k_asm); (case k6 => k_is); (case k7 => k_is); (case k8 => first | exact Nat.lt_of_le_of_lt (Nat.le_add_right _ _) (by assumption) | exact un0 (by assumption) (by decide) | exact un1 (by assumption) (by decide) | ktr_room); (case k9 => exact BindsTo.of_eq rfl); (case c5 => decide); (case kB => exact locs rfl); (case c2 => exact rfl); (case c3 => exact rfl); (case c4 => exact rfl); k_whole; intro L' h' F' N' B' X' T'; (try dsimp only); refine shutE ?_; intro P' E' hE' hP'; (try k_fold))
  k_steps
  all_goals repeat ((unfold Kept; (with_reducible show wpAny _ _ (exec (Stmt.For _ _ _ _ _) _) _ _ _); k_dflt (refine' For_turns ?kF ?_; (case kF => k_asm); k_whole)); k_steps)
  rename Fr _ _ _ _ => F1
  refine' get_own ?k1 ?k2 ?k3 ?k4 ?k5 ?k6 ?k7 ?k8 ?k9 ?_
  case k1 => exact F1
  case k2 => assumption
  case k3 => exact inst_up F1.keep hi1 hi2
  case k4 => k_is
  case k5 => k_is
  case k6 => k_is
  case k7 => k_is
  case k8 => k_get
  case k9 => k_handed
  k_steps
  all_goals repeat ((unfold Kept; (with_reducible show wpAny _ _ (exec (Stmt.For _ _ _ _ _) _) _ _ _); k_dflt (refine' For_turns ?kF ?_; (case kF => k_asm); k_whole)); k_steps)
  rename Fr _ _ _ _ => F2
  rename News _ _ _ _ => N2
  obtain ⟨m2, F2, hm2⟩ : ∃ m2, Fr s _ _ m2 ∧ AllAt m2 [(Str.ofString "left", .ref lf), (Str.ofString "right", .ref rt)] := ⟨_, F2, rfl, rfl, trivial⟩
  refine iter_listBase rfl F2 N2 hkl fun I hI => ?_
  refine itemsRest_ind (KeyAt s) (fun rem m news => Kept (news = [] ∧ cmpF ql qr rem = cmpF ql qr keys ∧ (∀ k ∈ rem, k.1 = 0 ∨ k.1 = 1 ∨ k.1 = 2 ∨ k.1 = 3) ∧ AllAt m [(Str.ofString "left", .ref lf), (Str.ofString "right", .ref rt)])) ?step ?done hkvs _ _ ⟨rfl, rfl, hcol, hm2⟩
  case step =>
    rintro v ⟨c, dir⟩ rest m news ⟨T, t1, t2, rfl, hT⟩ ⟨rfl, hcmp, hcols, hm⟩ h tk F₁
    refine AllObj.cons fun o ho => AllObj.nil fun N₁ P1 hP1 => ?_
    have F₁ := fr_over F₁ _ hm
    dsimp only [over] at F₁
    dsimp only at ho
    obtain ⟨Tl, l1, l2, l3, l4, el, hTl⟩ := hl
    obtain ⟨Tr, r1, r2, r3, r4, er, hTr⟩ := hr
    cases el
    cases er
    rw [← hcmp] at hret
    k_steps
    all_goals repeat ((unfold Kept; (with_reducible show wpAny _ _ (exec (Stmt.For _ _ _ _ _) _) _ _ _); k_dflt (refine' For_turns ?kF ?_; (case kF => k_asm); k_whole)); k_steps)
    have hc : c = 0 ∨ c = 1 ∨ c = 2 ∨ c = 3 := hcols (c, dir) (List.mem_cons_self ..)
    rcases hc with rfl | rfl | rfl | rfl
    all_goals
      refine kept_of ?_
      dsimp only
      rename Fr _ _ _ _ => F3
      first
        | refine item_tuple (j := 0) (x := .int ql.1 l1) (let ⟨o, ho, r⟩ := hTl; ⟨o, F3.keep _ o ho, r⟩) (by decide) (by decide) rfl rfl ?_
        | refine item_tuple (j := 1) (x := .str ql.2.1 l2) (let ⟨o, ho, r⟩ := hTl; ⟨o, F3.keep _ o ho, r⟩) (by decide) (by decide) rfl rfl ?_
        | refine item_tuple (j := 2) (x := .int ql.2.2.1 l3) (let ⟨o, ho, r⟩ := hTl; ⟨o, F3.keep _ o ho, r⟩) (by decide) (by decide) rfl rfl ?_
        | refine item_tuple (j := 3) (x := .int ql.2.2.2 l4) (let ⟨o, ho, r⟩ := hTl; ⟨o, F3.keep _ o ho, r⟩) (by decide) (by decide) rfl rfl ?_
      k_steps
      all_goals repeat ((unfold Kept; (with_reducible show wpAny _ _ (exec (Stmt.For _ _ _ _ _) _) _ _ _); k_dflt (refine' For_turns ?kF ?_; (case kF => k_asm); k_whole)); k_steps)
      refine kept_of ?_
      dsimp only
      rename Fr _ _ _ _ => F4
      first
        | refine item_tuple (j := 0) (x := .int qr.1 r1) (let ⟨o, ho, r⟩ := hTr; ⟨o, F4.keep _ o ho, r⟩) (by decide) (by decide) rfl rfl ?_
        | refine item_tuple (j := 1) (x := .str qr.2.1 r2) (let ⟨o, ho, r⟩ := hTr; ⟨o, F4.keep _ o ho, r⟩) (by decide) (by decide) rfl rfl ?_
        | refine item_tuple (j := 2) (x := .int qr.2.2.1 r3) (let ⟨o, ho, r⟩ := hTr; ⟨o, F4.keep _ o ho, r⟩) (by decide) (by decide) rfl rfl ?_
        | refine item_tuple (j := 3) (x := .int qr.2.2.2 r4) (let ⟨o, ho, r⟩ := hTr; ⟨o, F4.keep _ o ho, r⟩) (by decide) (by decide) rfl rfl ?_
      k_steps
      all_goals repeat ((unfold Kept; (with_reducible show wpAny _ _ (exec (Stmt.For _ _ _ _ _) _) _ _ _); k_dflt (refine' For_turns ?kF ?_; (case kF => k_asm); k_whole)); k_steps)
    all_goals first
      | (refine hret _ _ _ (by assumption) (int_end (cmpF_lt ?_)); assumption)
      | (refine hret _ _ _ (by assumption) (int_end (cmpF_gt ?_ ?_)) <;> assumption)
      | exact ⟨rfl, (by rw [← hcmp]; exact (cmpF_eq (by assumption) (by assumption)).symm), fun k hk => hcols k (List.mem_cons_of_mem _ hk), rfl, rfl, trivial⟩
  case done =>
    rintro m news ⟨rfl, hcmp, _, hm⟩ h tk F₁ N₁
    dsimp only
    rw [← hcmp] at hret
    k_steps
    all_goals repeat ((unfold Kept; (with_reducible show wpAny _ _ (exec (Stmt.For _ _ _ _ _) _) _ _ _); k_dflt (refine' For_turns ?kF ?_; (case kF => k_asm); k_whole)); k_steps)
    exact hret _ _ _ (by assumption) ⟨_, rfl⟩
end
section
example : True := by
  k_with_none
  k_with "LeaveF" => (refine leaveF_ (by k_asm) ?_; intro kk; (try dsimp only))
  k_with "Shut" => (refine shut (by assumption) ?_; (try dsimp only))
  k_with "execs cons" => (refine shutX ?_; intro tX PX hPX)
  k_with "exec For Name Call cons nil" => (k_here; refine held ?_)
  k_with "exec For Tuple Call cons nil" => (k_here; refine held ?_)
  k_with "exec For Name Name cons nil" => (k_here; refine held ?_)
  k_with "exec For Tuple Name cons nil" => (k_here; refine held ?_)
  k_with "exec While" => (k_here; refine held ?_)
  k_with "eval Name" => (k_here; (refine' wpAny_Name (wpAny_loadName_local rfl rfl (ns_led ?nN ?nM ?nF) ?nv ?_) rfl); (case nF => assumption); (case nN => k_asm); (case nM => k_mem); (case nv => exact rfl))
  k_with "eval ListComp" => (k_here; refine held ?_)
  k_with "newTuple" => (k_here; k_dflt (refine' newTuple_U ?F ?N ?U ?_ ?z; (case F => k_asm); (case N => k_asm); (case U => assumption); (case z => kmk_size)); intro D' h' F' N' l1 U'; (try k_lt l1))
  trivial
local macro_rules | `(tactic| k_all) => `(tactic| exact Above.off (by assumption) (by show (_ : Nat) ≤ _; omega))
example : True := by
  k_with_none
  k_with "LeaveF" => (refine leaveF_ (by k_asm) ?_; intro kk; (try dsimp only))
  k_with "Shut" => (refine shut (by assumption) ?_; (try dsimp only))
  k_with "execs cons" => (refine shutX ?_; intro tX PX hPX)
  k_with "exec For Name Call cons nil" => (k_here; refine held ?_)
  k_with "exec For Tuple Call cons nil" => (k_here; refine held ?_)
  k_with "exec For Name Name cons nil" => (k_here; refine held ?_)
  k_with "exec For Tuple Name cons nil" => (k_here; refine held ?_)
  k_with "exec While" => (k_here; refine held ?_)
  k_with "eval Name" => (k_here; (refine' wpAny_Name (wpAny_loadName_local rfl rfl (ns_led ?nN ?nM ?nF) ?nv ?_) rfl); (case nF => assumption); (case nN => k_asm); (case nM => k_mem); (case nv => exact rfl))
  k_with "eval ListComp" => (k_here; refine held ?_)
  k_with "newTuple" => (k_here; k_dflt (refine' newTuple_U ?F ?N ?U ?_ ?z; (case F => k_asm); (case N => k_asm); (case U => assumption); (case z => kmk_size)); intro D' h' F' N' l1 U'; (try k_lt l1))
  k_with "newTuple" => (k_here; k_dflt (refine' newTuple_V ?F ?N ?U ?_ ?z; (case F => k_asm); (case N => k_asm); (case U => assumption); (case z => kmk_size)); intro D' h' F' N' l1 U' fr'; (try k_lt l1))
  k_with "UnrEndW" => refine held ?_
  trivial
noncomputable def cutsOf (one two : Int) : List Cut := (pairsTo (fun i => (6 - (two + i + 1)).toNat) (5 - two).toNat).map fun p => (one, two, two + p.1, two + p.1 + 1 + p.2)
noncomputable def cutsFrom (one : Int) : List Cut := (intsOn (one + 1) (6 - (one + 1)).toNat).flatMap (cutsOf one)
noncomputable def cutsList : List Cut := (intsOn 0 5).flatMap cutsFrom
noncomputable def CutL (led : List (Addr × Obj)) (v : Value) (q : Cut) : Prop := (Ex5 fun T t1 t2 t3 t4 => v = .ref T ∧ (T, tupOf [.int q.1 t1, .int q.2.1 t2, .int q.2.2.1 t3, .int q.2.2.2 t4]) ∈ led)
theorem cuts_le {xs r : List Cut} (h : xs ++ r = cutsList) : xs.length + r.length = 35 := by
  rw [← List.length_append, h]; decide +kernel
noncomputable def CutG (q y : Int) (C : Addr) (i j : Nat) (T : Addr) (o : Obj) : Prop := C < T ∧ (Ex4 fun t1 t2 t3 t4 => o = tupOf [.int q t1, .int y t2, .int (y + i) t3, .int (y + i + 1 + j) t4])
theorem paired_append {α β : Type} {F : α → β → Prop} {l l' : List α} {r r' : List β} (x : Paired F l r) (y : Paired F l' r') : Paired F (l ++ l') (r ++ r') := by
  induction x with
  | nil => exact y
  | cons f _ ih => exact .cons f ih
theorem cutL_up {led led' : List (Addr × Obj)} {vs : List Value} {xs : List Cut} (h : ∀ p ∈ led, p ∈ led') (x : Paired (CutL led) vs xs) : Paired (CutL led') vs xs :=
  paired_mono (fun _ _ ⟨T, u1, u2, u3, u4, e, hm⟩ => ⟨T, u1, u2, u3, u4, e, h _ hm⟩) x
theorem cut_led {q y : Int} {C : Addr} {h : Heap} : ∀ {vs : List Value} {ps : List (Nat × Nat)}, Paired (fun v (p : Nat × Nat) => (Ex2 fun T o => Al3 (v = Value.ref T) (h.get? T = some o) (CutG q y C p.1 p.2 T o))) vs ps →
    ∃ led : List (Addr × Obj), (∀ p ∈ led, h.get? p.1 = some p.2 ∧ C < p.1 ∧ p.2.cls = .type "tuple") ∧ Paired (CutL led) vs (ps.map fun p => (q, y, y + p.1, y + p.1 + 1 + p.2)) := by
  intro vs ps hp
  induction hp with
  | nil => exact ⟨[], fun _ h => (by cases h), .nil⟩
  | @cons v p vs ps hv _ ih =>
    obtain ⟨T, o, rfl, hT, hC, t1, t2, t3, t4, rfl⟩ := hv
    obtain ⟨led, hl, hp⟩ := ih
    refine ⟨(T, _) :: led, fun p hp => ?_, .cons ⟨T, t1, t2, t3, t4, rfl, List.mem_cons_self ..⟩ (paired_mono (fun a b ⟨T', u1, u2, u3, u4, e, hm⟩ => ⟨T', u1, u2, u3, u4, e, List.mem_cons_of_mem _ hm⟩) hp)⟩
    rcases List.mem_cons.mp hp with rfl | hp
    · exact ⟨hT, hC, rfl⟩
    · exact hl p hp
set_option maxHeartbeats 16000000 in
theorem cuts_spec {w : World} :
   PCall w 126 [] 8 40 (fun _ => True) (fun h0 h v => (Ex4 fun f led vs c => Al4 (v = .ref f) ((∀ p ∈ led, NewAt h0 h p.1 p.2)) ((f, listOf (List.toArray vs) c) ∈ led) (Paired (CutL led) vs cutsList))) := by
  unfold PCall
  intro p loose mean mg mb dp un gd cn cs' a ccd cl outer A₀ base h₀ L m s gS dS tS oS Q E B F X T hk hd hu hpre hret
  refine wpAny_call ?_
  (refine' code_FC ?k1 ?k2 ?k3 ?k5 ?kA ?kF ?kK ?k6 ?k7 ?k8 ?k9 ?kB ?kD ?_ ?c2 ?c3 ?c4; (case kA => exact rfl); (case kF => exact rfl); (case kK => assumption); (case k1 => k_asm); (case k2 => k_asm); (case k3 => k_asm); (case k5 => k_asm); (case k6 => k_is); (case k7 => k_is); (case k8 => first | exact Nat.lt_of_le_of_lt (Nat.le_add_right _ _) (by assumption) | exact un0 (by assumption) (by decide) | exact un1 (by assumption) (by decide) | ktr_room); (case k9 => exact BindsTo.of_eq rfl); (case kB => exact rfl); (case kD => decide +kernel); (case c2 => exact rfl); (case c3 => exact rfl); (case c4 => exact rfl); k_whole; intro L' h' tk' cells' F' N' Y' B' X' T'; k_cells Y'; (try simp only [List.cons_append, List.nil_append] at N'); (try dsimp only); refine shutE ?_; intro P' E' hE' hP'; (try k_fold))
  k_steps
  all_goals repeat ((unfold Kept; (with_reducible show wpAny _ _ (exec (Stmt.For _ _ _ _ _) _) _ _ _); k_dflt (refine' For_turns ?kF ?_; (case kF => k_asm); k_whole)); k_steps)
  rename Fr _ _ _ _ => F1
  obtain ⟨L1, hL1⟩ := fr_name F1
  subst hL1
  rename News _ _ _ _ => N1
  rename IsRange _ _ _ _ _ _ _ _ => hR
  obtain ⟨m1, F1, l, o1, o2, N1, hLl, ⟨v1, hd1⟩, ⟨v2, hd2⟩, hm1⟩ : ∃ m1, Fr s L1 _ m1 ∧ (Ex3 fun l o1 o2 => Al5 (News s L1 _ ((l, listOf #[] 0) :: (L1 + 1 + 1, o2) :: (L1 + 1, o1) :: [])) (L1 + 1 + 1 < l) ((∃ v1, o1.data = .cell v1)) ((∃ v2, o2.data = .cell v2)) (AllAt m1 [(Str.ofString "cuts", .ref l)])) :=
    ⟨_, F1, _, _, _, N1, (by rename (_ < _ ∧ _) => ll; exact ll.1), ⟨_, by assumption⟩, ⟨_, by assumption⟩, rfl, trivial⟩
  refine iter_rangeB hR (by decide) (by decide) (by decide) (by decide) rfl F1 N1 fun I hI => ?_
  refine itemsRest_indI (fun rem m news => Kept ((Ex5 fun vs xs led n o1 => Ex3 fun o2 v1 v2 => Al5 (news = (l, listOf (List.toArray vs) n) :: (L1 + 1 + 1, o2) :: (L1 + 1, o1) :: led) (o1.data = .cell v1) (o2.data = .cell v2) (Above l led) (Al5 (Tups led) (Paired (CutL led) vs xs) (AllAt m [(Str.ofString "cuts", .ref l)]) (xs ++ rem.flatMap cutsFrom = cutsList) (∀ y ∈ rem, 0 ≤ y ∧ y < 5))))) ?step ?done _ _
    ⟨[], [], [], 0, o1, o2, v1, v2, rfl, hd1, hd2, fun _ hp => (by cases hp), fun _ hp => (by cases hp), .nil, hm1, rfl, fun y hy => by have := mem_intsOn hy; omega⟩
  case step =>
    rintro q rest m news ⟨vs, xs, led, n, o1, o2, v1, v2, rfl, hd1, hd2, hab, htp, hvs, hm, hxs, hb⟩ t h tk F₁
    refine AllObj.cons fun o ho => AllObj.nil fun N₁ P1 hP1 => ?_
    have F₁ := fr_over F₁ _ hm
    dsimp only [over] at F₁
    dsimp only at ho
    dsimp only [List.cons_append, List.nil_append] at N₁
    clear F1 N1 hR
    have hq := hb q (List.mem_cons_self ..)
    have hlI : l < I := hI _ (List.mem_cons_self ..)
    k_lt2 hlI
    k_lt2 hLl
    k_steps
    all_goals repeat ((unfold Kept; (with_reducible show wpAny _ _ (exec (Stmt.For _ _ _ _ _) _) _ _ _); k_dflt (refine' For_turns ?kF ?_; (case kF => k_asm); k_whole)); k_steps)
    rename Fr _ _ _ _ => F2
    rename News _ _ _ _ => N2
    rename IsRange _ _ _ _ _ _ _ _ => hR2
    obtain ⟨m2, F2, o1, N2, hd1, hm2⟩ : ∃ m2, Fr s L1 _ m2 ∧ ∃ o1, News s L1 _ ((I, o) :: (l, listOf (List.toArray vs) n) :: (L1 + 1 + 1, o2) :: (L1 + 1, o1) :: led) ∧ o1.data = .cell (some (.int q t)) ∧ AllAt m2 [(Str.ofString "cuts", .ref l)] :=
      ⟨_, F2, _, N2, by assumption, rfl, trivial⟩
    refine iter_rangeB hR2 (by omega) (by omega) (by decide) (by decide) rfl F2 N2 fun I2 hI2 => ?_
    k_lt hI2
    refine itemsRest_indI (fun rem m news => Kept ((Ex5 fun vs xs led n o2 => ∃ v2, Al5 (news = (I, o) :: (l, listOf (List.toArray vs) n) :: (L1 + 1 + 1, o2) :: (L1 + 1, o1) :: led) (o2.data = .cell v2) (Above l led) (Tups led) (Al4 (Paired (CutL led) vs xs) (AllAt m [(Str.ofString "cuts", .ref l)]) (xs ++ (rem.flatMap (cutsOf q) ++ rest.flatMap cutsFrom) = cutsList) (∀ y ∈ rem, q + 1 ≤ y ∧ y < 6))))) ?step2 ?done2 _ _
      ⟨vs, xs, led, n, o2, v2, rfl, hd2, hab, htp, hvs, hm2, hxs, fun y hy => by have := mem_intsOn hy; omega⟩
    case step2 =>
      clear F₁ N₁ F2 N2 hR2 hvs hab htp hxs hd2 hm hm2
      rintro y rest2 m news ⟨vs, xs, led, n, o2, v2, rfl, hd2, hab, htp, hvs, hm, hxs, hb2⟩ ty h tk F₁
      refine AllObj.cons fun oi hoi => AllObj.nil fun N₁ P1 hP1 => ?_
      have F₁ := fr_over F₁ _ hm
      dsimp only [over] at F₁
      dsimp only at hoi
      dsimp only [List.cons_append, List.nil_append] at N₁
      have hy := hb2 y (List.mem_cons_self ..)
      k_steps
      all_goals repeat ((unfold Kept; (with_reducible show wpAny _ _ (exec (Stmt.For _ _ _ _ _) _) _ _ _); k_dflt (refine' For_turns ?kF ?_; (case kF => k_asm); k_whole)); k_steps)
      unfold Kept
      rename Fr _ _ _ _ => F3
      rename News _ _ _ _ => N3
      obtain ⟨m3, F3, o2, N3, hd2, hm3⟩ : ∃ m3, Fr s L1 _ m3 ∧ ∃ o2, News s L1 _ ((I2, oi) :: (I, o) :: (l, listOf (List.toArray vs) n) :: (L1 + 1 + 1, o2) :: (L1 + 1, o1) :: led) ∧ o2.data = .cell (some (.int y ty)) ∧ AllAt m3 [(Str.ofString "cuts", .ref l)] :=
        ⟨_, F3, _, N3, by assumption, rfl, trivial⟩
      have F3 := fr_over F3 _ hm3
      dsimp only [over] at F3
      clear F₁ N₁
      refine ListComp_turns2 (cl := [("two", L1 + 1 + 1), ("one", L1 + 1)]) (fun i => (6 - (y + i + 1)).toNat) (CutG q y) (by with_unfolding_all rfl) (by decide) rfl (by decide) ?_ (by intro _; rfl) (by intro _ _; rfl)
      k_steps
      all_goals repeat ((unfold Kept; (with_reducible show wpAny _ _ (exec (Stmt.For _ _ _ _ _) _) _ _ _); k_dflt (refine' For_turns ?kF ?_; (case kF => k_asm); k_whole)); k_steps)
      rename IsRange _ _ _ _ _ _ _ _ => hR3
      rename Fr _ _ _ _ => F4
      rename News _ _ _ _ => N4
      refine src2_range _ _ hR3 (by omega) (by omega) (by decide) (by decide) rfl ?hsz ?turn ?fin
      case hsz =>
        intro i j hi hj
        have hc : ∀ k : Nat, (6 - (y + k + 1)).toNat ≤ 10 := fun k => by clear hi hj; omega
        have h1 := pairsTo_len (cnt := fun i => (6 - (y + i + 1)).toNat) hc i
        have h3 : i ≤ 10 := by clear hc hj h1; omega
        rw [sizeLine_eq]
        exact Nat.le_trans (Nat.add_le_add (Nat.le_trans h1 (Nat.mul_le_mul_left 10 h3)) (Nat.le_trans (Nat.le_of_lt hj) (hc i))) (by decide)
      case turn =>
        intro C D I4 E' i tv h1 tk1 m1 hC hDC hD hI4 hi hn1 hk1
        refine wpAny_assign_Name (wpAny_storeName_local rfl hn1 (fun h2 hn2 hs2 => ?_) rfl)
        have up2 : ∀ b o, Heap.get? _ b = some o → h2.get? b = some o := fun b o e => hs2.extBut b o (Nat.ne_of_lt (Nat.lt_trans (Heap.lt_size e) hC)) (hk1 b o e)
        obtain ⟨oC, F5, N5, nC⟩ := comp_led F4 N4 up2 hC hn2
        have U0 : Upk h2 h2 := fun _ _ e => e
        k_steps
        all_goals repeat ((unfold Kept; (with_reducible show wpAny _ _ (exec (Stmt.For _ _ _ _ _) _) _ _ _); k_dflt (refine' For_turns ?kF ?_; (case kF => k_asm); k_whole)); k_steps)
        rename IsRange _ _ _ _ _ _ _ _ => hR4
        rename Fr _ _ _ _ => F6
        rename News _ _ _ _ => N6
        rename (∀ b o, Heap.get? _ b = some o → Heap.get? _ b = some o) => k6
        refine two_range (fun m => m (Str.ofString "three") = some (.int (y + (i : Nat)) tv)) hR4 (by omega) (by omega) (by decide) (by decide) rfl rfl ⟨_, _, rfl⟩ ?sz (ns_led N6 (by k_mem) nC) rfl ?kk ?turn4
        case sz => exact Nat.le_of_lt (Nat.lt_of_le_of_lt (Nat.le_of_eq hs2.1.symm) (Heap.lt_size hR4))
        case kk => exact fun b o hb e => k6 b o (hs2.extBut b o hb e)
        case turn4 =>
          intro I5 E5 j tu h5 tk5 m5 hI5 hj hn5 hJ5 hk5
          rw [← over_eq (m := m5) [(Str.ofString "three", .int (y + (i : Nat)) tv)] (fun q hq => by rw [List.mem_singleton.mp hq]; exact hJ5)] at hn5
          dsimp only [over] at hn5
          refine wpAny_assign_Name (wpAny_storeName_local rfl hn5 (fun h7 hn7 hs7 => ?_) rfl)
          have up7 : ∀ b o, Heap.get? _ b = some o → h7.get? b = some o := fun b o e => hs7.extBut b o (Nat.ne_of_lt (Nat.lt_trans (Heap.lt_size e) hC)) (hk5 b o (Nat.ne_of_lt (Nat.lt_trans (Heap.lt_size e) hC)) (Nat.ne_of_lt (Nat.lt_trans (Heap.lt_size e) hD)) (k6 b o (up2 b o e)))
          obtain ⟨oC7, F7, N7, nC7⟩ := comp_led F4 N4 up7 hC hn7
          clear F6 N6 F4 N4 F3 N3 nC
          have U0 : Upk h7 h7 := fun _ _ e => e
          k_steps
          all_goals repeat ((unfold Kept; (with_reducible show wpAny _ _ (exec (Stmt.For _ _ _ _ _) _) _ _ _); k_dflt (refine' For_turns ?kF ?_; (case kF => k_asm); k_whole)); k_steps)
          unfold Kept
          rename News _ _ _ _ => N8
          rename Upk _ _ => U8
          rename (_ < _ ∧ _) => ll
          rename (Heap.get? _ _ = none) => fr8
          have up8 : ∀ b o, b ≠ C → h5.get? b = some o → Heap.get? _ b = some o := fun b o hb e => U8 b o (hs7.extBut b o hb e)
          refine ⟨⟨_, _, rfl, (N8 _ (.head _)).1, ⟨ll.1, _, _, _, _, rfl⟩, ?_⟩, _, _, _, rfl, ns_led N8 (by k_mem) nC7, rfl, up8⟩
          exact none_upB (C := C) (fun b o hb e => hs7.extBut b o hb e) (Nat.ne_of_gt ll.1) fr8
      case fin =>
        intro D C h' tk' ys hD hDC hpl hp hk'
        obtain ⟨led2, hled2, hys⟩ := cut_led hp
        have F7 := fr_up F4 hk'
        have N7 := news_up N4 hk'
        have hlD : l < D := Nat.lt_of_lt_of_le (Heap.lt_size (N4 _ (.tail _ (.tail _ (.head _)))).1) hD
        have hLs := F4.ns.lt
        have hLT : ∀ p ∈ led2, L1 < p.1 := fun p hp => Nat.lt_of_lt_of_le hLs (Nat.le_trans hD (Nat.le_of_lt (Nat.lt_trans hDC (hled2 p hp).2.1)))
        have N8 : News s L1 h' ((l, listOf (List.toArray vs) n) :: (led2 ++ ((I2, oi) :: (I, o) :: (L1 + 1 + 1, o2) :: (L1 + 1, o1) :: led))) := by
          intro p hp
          simp only [List.mem_cons, List.mem_append] at hp
          rcases hp with hp | hp | hp | hp | hp | hp | hp
          case inr.inl => exact ⟨(hled2 p hp).1, Nat.ne_of_gt (hLT p hp), Heap.get?_none_of_le (Nat.le_trans F7.above (Nat.le_of_lt (hLT p hp)))⟩
          all_goals exact N7 p (by simp [hp])
        clear F4 N4 F3 N3 N7
        dsimp only
        have hxl := cuts_le hxs
        have hvl := hvs.length
        have hyl := hys.length
        rw [List.flatMap_cons, List.append_assoc] at hxs
        have hxs2 := hxs
        rw [← List.append_assoc] at hxs
        have hxl2 := cuts_le hxs
        rw [List.length_append] at hxl2
        refine iadd_lists F7 N8 ?off hpl (by rw [hvl, hyl]; unfold cutsOf at hxl2; rw [List.length_map] at hxl2 ⊢; omega) fun h9 n9 F9 N9 k9 => ?_
        case off =>
          intro p hp
          simp only [List.mem_cons, List.mem_append] at hp
          rcases hp with hp | hp | hp | hp | hp | hp
          · exact Nat.ne_of_gt (Nat.lt_trans hlD (Nat.lt_trans hDC (hled2 p hp).2.1))
          · rw [hp]; exact Nat.ne_of_gt hI2.2.1
          · rw [hp]; exact Nat.ne_of_gt hlI
          · rw [hp]; exact Nat.ne_of_lt hLl
          · rw [hp]; exact Nat.ne_of_lt (Nat.lt_of_succ_lt hLl)
          · exact Nat.ne_of_gt (hab p hp)
        clear F7 N8
        have N9 : News s L1 h9 ((I2, oi) :: (I, o) :: (l, listOf (List.toArray (vs ++ ys)) n9) :: (L1 + 1 + 1, o2) :: (L1 + 1, o1) :: (led2 ++ led)) := fun p hp => N9 p (by
          simp only [List.mem_cons, List.mem_append] at hp ⊢
          rcases hp with hp | hp | hp | hp | hp | hp | hp <;> simp [hp])
        k_steps
        all_goals repeat ((unfold Kept; (with_reducible show wpAny _ _ (exec (Stmt.For _ _ _ _ _) _) _ _ _); k_dflt (refine' For_turns ?kF ?_; (case kF => k_asm); k_whole)); k_steps)
        unfold Kept
        rename Fr _ _ _ _ => F10
        rename News _ _ _ _ => N10
        have htp2 : Tups (led2 ++ led) := fun p hp => by
          rcases List.mem_append.mp hp with hp | hp
          · exact (hled2 p hp).2.2
          · exact htp p hp
        have hab2 : Above l (led2 ++ led) := fun p hp => by
          rcases List.mem_append.mp hp with hp | hp
          · exact Nat.lt_trans hlD (Nat.lt_trans hDC (hled2 p hp).2.1)
          · exact hab p hp
        refine ⟨_, _, _, _, rfl, F10, N10, off_led (pre := [_, _, _, _]) N10 hoi (fun p hp => ?_) htp2, trivial, vs ++ ys, xs ++ cutsOf q y, led2 ++ led, n9, o2, _, rfl, hd2, hab2, htp2, ?_, ⟨rfl, trivial⟩, by rw [List.append_assoc]; exact hxs2, fun z hz => hb2 z (List.mem_cons_of_mem _ hz)⟩
        · simp only [List.mem_cons, List.not_mem_nil, or_false] at hp
          rcases hp with rfl | rfl | rfl | rfl
          · exact hI2.1
          · exact hI2.2.1
          · exact hI2.2.2.1
          · exact hI2.2.2.2.1
        · exact paired_append (cutL_up (fun p hp => List.mem_append_right _ hp) hvs) (cutL_up (fun p hp => List.mem_append_left _ hp) hys)
    case done2 =>
      rintro m news ⟨vs, xs, led, n, o2, v2, rfl, hd2, hab, htp, hvs, hm, hxs, hb2⟩ h tk F₁ N₁
      dsimp only
      k_steps
      all_goals repeat ((unfold Kept; (with_reducible show wpAny _ _ (exec (Stmt.For _ _ _ _ _) _) _ _ _); k_dflt (refine' For_turns ?kF ?_; (case kF => k_asm); k_whole)); k_steps)
      unfold Kept
      rename Fr _ _ _ _ => F10
      rename News _ _ _ _ => N10
      rw [List.flatMap_nil, List.nil_append] at hxs
      refine ⟨_, _, _, _, rfl, F10, N10, off_led (pre := [_, _, _]) N10 ho (fun p hp => ?_) htp, trivial, vs, xs, led, n, o1, o2, _, _, rfl, hd1, hd2, hab, htp, hvs, hm, hxs, fun z hz => hb z (List.mem_cons_of_mem _ hz)⟩
      simp only [List.mem_cons, List.not_mem_nil, or_false] at hp
      rcases hp with rfl | rfl | rfl
      · exact hlI
      · exact Nat.lt_trans hLl hlI
      · exact Nat.lt_trans (Nat.lt_of_succ_lt hLl) hlI
  case done =>
    rintro m news ⟨vs, xs, led, n, o1, o2, v1, v2, rfl, hd1, hd2, hab, htp, hvs, hm, hxs, hb⟩ h tk F₁ N₁
    have F₁ := fr_over F₁ _ hm
    dsimp only [over] at F₁
    dsimp only
    k_steps
    all_goals repeat ((unfold Kept; (with_reducible show wpAny _ _ (exec (Stmt.For _ _ _ _ _) _) _ _ _); k_dflt (refine' For_turns ?kF ?_; (case kF => k_asm); k_whole)); k_steps)
    rw [List.flatMap_nil, List.append_nil] at hxs
    rw [← hxs] at hret
    refine hret _ _ _ (by assumption) ⟨l, (l, listOf (List.toArray vs) n) :: led, vs, n, rfl, fun p hp => ?_, List.mem_cons_self .., cutL_up (fun p hp => List.mem_cons_of_mem _ hp) hvs⟩
    have hp' : p ∈ (l, listOf (List.toArray vs) n) :: (L1 + 1 + 1, o2) :: (L1 + 1, o1) :: led := by
      rcases List.mem_cons.mp hp with hp | hp
      · rw [hp]; exact List.mem_cons_self ..
      · exact List.mem_cons_of_mem _ (List.mem_cons_of_mem _ (List.mem_cons_of_mem _ hp))
    exact ⟨(N₁ p hp').1, (N₁ p hp').2.2⟩
end
section
section
example : True := by
  k_with_none
  k_with "LeaveF" => (refine leaveF_ (by k_asm) ?_; intro kk; (try dsimp only))
  k_with "Shut" => (refine shut (by assumption) ?_; (try dsimp only))
  k_with "execs cons" => (refine shutX ?_; intro tX PX hPX)
  k_with "exec For Name Call cons nil" => (k_here; refine held ?_)
  k_with "exec For Tuple Call cons nil" => (k_here; refine held ?_)
  k_with "exec For Name Name cons nil" => (k_here; refine held ?_)
  k_with "exec For Tuple Name cons nil" => (k_here; refine held ?_)
  k_with "exec While" => (k_here; refine held ?_)
  k_with "subscriptTail" => (k_here; (with_reducible show wpAny _ _ (subscriptTail _ _ (Value.ref _) (Value.int _ _)) _ _ _); refine held ?_)
  k_with "callWith ref" => (k_here; refine callWith_def (by assumption) ?_)
  trivial
set_option maxHeartbeats 16000000 in
theorem bisl_spec {w : World} (l kf : Addr) (vs : List Value) (ks : List Int) (x : Int) (tx : Tok) (P : Heap → Prop) (stab : ∀ h h', Upk h h' → P h → P h') (hfn : ∀ h, P h → (Ex2 fun o fd => h.get? kf = some o ∧ o.data = .func fd)) (hn : vs.length ≤ 1000) (hkey : KeyOk w kf P vs ks) :
   PCallK w 48 [.ref l, .int x tx] [("key", .ref kf)] 16 100 (fun h => h.IsList l vs.toArray ∧ P h) (fun _ _ v => ∃ t, v = .int (blK ks x (vs.length + 1) 0 vs.length) t) := by
  unfold PCallK
  intro p loose mean mg mb dp un gd cn cs' a ccd cl outer A₀ base h₀ L m s gS dS tS oS Q E B F X T hk hd hu hpre hret
  obtain ⟨hl, hP⟩ := hpre
  obtain ⟨ok, fdk, hok, hdk⟩ := hfn _ hP
  refine wpAny_call ?_
  (refine' code_F ?k1 ?k2 ?k3 ?k5 ?kA ?kF ?kK ?k6 ?k7 ?k8 ?k9 ?kB ?_ ?c2 ?c3 ?c4 ?c5; (case kA => exact rfl); (case kF => exact rfl); (case kK => assumption); (case k1 => k_asm); (case k2 => k_asm); (case k3 => k_asm); (case k5 => k_asm); (case k6 => k_is); (case k7 => k_is); (case k8 => first | exact Nat.lt_of_le_of_lt (Nat.le_add_right _ _) (by assumption) | exact un0 (by assumption) (by decide) | exact un1 (by assumption) (by decide) | ktr_room); (case k9 => exact binds_K (Frag.In.keeps (by assumption) (Fr.keep (by assumption))) rfl (by k_is) rfl rfl rfl); (case c5 => decide); (case kB => exact locs rfl); (case c2 => exact rfl); (case c3 => exact rfl); (case c4 => exact rfl); k_whole; intro L' h' F' N' B' X' T'; (try dsimp only); refine shutE ?_; intro P' E' hE' hP'; (try k_fold))
  k_steps
  rename Fr _ _ _ _ => F1
  obtain ⟨L1, hL1⟩ := fr_name F1
  subst hL1
  refine Calls.call_len_list (hl.at fun o e => F1.keep _ _ e) (by rw [List.size_toArray]; omega) ?_
  rw [List.size_toArray]
  k_steps
  unfold Kept
  rename Fr _ _ _ _ => F2
  obtain ⟨m2, F2, ti, tj, hm2⟩ : ∃ m2, Fr s L1 _ m2 ∧ (Ex2 fun t1 t2 => AllAt m2 [(Str.ofString "lo", .int 0 t1), (Str.ofString "hi", .int vs.length t2), (Str.ofString "a", .ref l), (Str.ofString "x", .int x tx), (Str.ofString "key", .ref kf)]) := ⟨_, F2, _, _, rfl, rfl, rfl, rfl, rfl, trivial⟩
  refine While_inv2 (fun n m₁ nx => Kept (nx = [] ∧ (Ex4 fun (lo hi : Int) (t1 t2 : Tok) => Al5 (0 ≤ lo) (hi ≤ (vs.length : Int)) (hi - lo < (n : Int)) (blK ks x n lo hi = blK ks x (vs.length + 1) 0 vs.length) (AllAt m₁ [(Str.ofString "lo", .int lo t1), (Str.ofString "hi", .int hi t2), (Str.ofString "a", .ref l), (Str.ofString "x", .int x tx), (Str.ofString "key", .ref kf)])))) F2 (by assumption) ⟨rfl, _, _, _, _, Int.le_refl _, Int.le_refl _, by omega, rfl, hm2⟩ ?_
  rintro n m₁ nx h₁ tk₁ F₁ N₁ ⟨rfl, lo, hi, t1, t2, hlo, hhi, hlt, hbl, hm⟩
  have F₁ := fr_over F₁ _ hm
  dsimp only [over] at F₁

  k_steps
  · have hmid := mid_of ‹lo < hi›
    obtain ⟨n, rfl⟩ := mid_fuel hlt ‹lo < hi›
    refine kept_of ?_
    rename Fr _ _ _ _ => F3
    rename News _ _ _ _ => N3
    have hml : ((lo + hi).fdiv 2).toNat < vs.length := mid_nat hlo hhi hmid
    refine item_at (hl.at fun o e => F3.keep _ _ e) (Int.le_trans hlo hmid.1) (mid_63 hn hhi hmid) (List.getElem?_eq_getElem hml) ?_ (by with_unfolding_all rfl)
    k_steps
    rename Fr _ _ _ _ => F4
    rename News _ _ _ _ => N4
    refine PCallK.use (hkey _ _ (List.getElem?_eq_getElem hml)) (by assumption) F4 N4 (by assumption) (by assumption) (by first | exact rfl | assumption) (by first | exact un1 (by assumption) (by decide) | exact un2 (by assumption) (by decide) | exact un3 (by assumption) (by decide) | exact un0 (by assumption) (by decide) | ktr_room) (by first | exact un1 (by assumption) (by decide) | exact un2 (by assumption) (by decide) | exact un3 (by assumption) (by decide) | exact un0 (by assumption) (by decide) | ktr_units) (stab _ _ F4.keep hP) fun v9 h9 t9 k9 p9 F9 N9 => ?_
    obtain ⟨t8, rfl⟩ := p9

    try dsimp only
    k_steps
    · exact ⟨_, _, _, _, _, rfl, by assumption, by assumption, Nat.lt_succ_self _, rfl, (lo + hi).fdiv 2 + 1, hi, _, _, mid_s hlo hmid, hhi, mid_a hmid hlt, (by rw [← hbl]; rw [blK_succ, if_pos (by assumption), if_pos (by assumption)]), rfl, rfl, rfl, rfl, rfl, trivial⟩
    · exact ⟨_, _, _, _, _, rfl, by assumption, by assumption, Nat.lt_succ_self _, rfl, lo, (lo + hi).fdiv 2, _, _, hlo, Int.le_trans (Int.le_of_lt hmid.2) hhi, mid_b hmid hlt, (by rw [← hbl]; rw [blK_succ, if_pos (by assumption), if_neg (by assumption)]), rfl, rfl, rfl, rfl, rfl, trivial⟩
  · refine hret _ _ _ (by assumption) ⟨t1, ?_⟩
    rw [← hbl]
    cases n with
    | zero => rfl
    | succ n => rw [blK_succ, if_neg (by assumption)]
end
section
set_option maxHeartbeats 16000000 in
theorem bisr_spec {w : World} (l kf : Addr) (vs : List Value) (ks : List Int) (x : Int) (tx t0 : Tok) (P : Heap → Prop) (stab : ∀ h h', Upk h h' → P h → P h') (hfn : ∀ h, P h → (Ex2 fun o fd => h.get? kf = some o ∧ o.data = .func fd)) (hn : vs.length ≤ 1000) (hkey : KeyOk w kf P vs ks) :
   PCallK w 39 [.ref l, .int x tx, .int 0 t0, .none] [("key", .ref kf)] 16 100 (fun h => h.IsList l vs.toArray ∧ P h) (fun _ _ v => ∃ t, v = .int (brK ks x (vs.length + 1) 0 vs.length) t) := by
  unfold PCallK
  intro p loose mean mg mb dp un gd cn cs' a ccd cl outer A₀ base h₀ L m s gS dS tS oS Q E B F X T hk hd hu hpre hret
  obtain ⟨hl, hP⟩ := hpre
  obtain ⟨ok, fdk, hok, hdk⟩ := hfn _ hP
  refine wpAny_call ?_
  (refine' code_F ?k1 ?k2 ?k3 ?k5 ?kA ?kF ?kK ?k6 ?k7 ?k8 ?k9 ?kB ?_ ?c2 ?c3 ?c4 ?c5; (case kA => exact rfl); (case kF => exact rfl); (case kK => assumption); (case k1 => k_asm); (case k2 => k_asm); (case k3 => k_asm); (case k5 => k_asm); (case k6 => k_is); (case k7 => k_is); (case k8 => first | exact Nat.lt_of_le_of_lt (Nat.le_add_right _ _) (by assumption) | exact un0 (by assumption) (by decide) | exact un1 (by assumption) (by decide) | ktr_room); (case k9 => exact binds_K (Frag.In.keeps (by assumption) (Fr.keep (by assumption))) rfl (by k_is) rfl rfl rfl); (case c5 => decide); (case kB => exact locs rfl); (case c2 => exact rfl); (case c3 => exact rfl); (case c4 => exact rfl); k_whole; intro L' h' F' N' B' X' T'; (try dsimp only); refine shutE ?_; intro P' E' hE' hP'; (try k_fold))
  k_steps
  rename Fr _ _ _ _ => F1
  obtain ⟨L1, hL1⟩ := fr_name F1
  subst hL1
  refine Calls.call_len_list (hl.at fun o e => F1.keep _ _ e) (by rw [List.size_toArray]; omega) ?_
  rw [List.size_toArray]
  k_steps
  unfold Kept
  rename Fr _ _ _ _ => F2
  obtain ⟨m2, F2, ti, tj, hm2⟩ : ∃ m2, Fr s L1 _ m2 ∧ (Ex2 fun t1 t2 => AllAt m2 [(Str.ofString "lo", .int 0 t1), (Str.ofString "hi", .int vs.length t2), (Str.ofString "a", .ref l), (Str.ofString "x", .int x tx), (Str.ofString "key", .ref kf)]) := ⟨_, F2, _, _, rfl, rfl, rfl, rfl, rfl, trivial⟩
  refine While_inv2 (fun n m₁ nx => Kept (nx = [] ∧ (Ex4 fun (lo hi : Int) (t1 t2 : Tok) => Al5 (0 ≤ lo) (hi ≤ (vs.length : Int)) (hi - lo < (n : Int)) (brK ks x n lo hi = brK ks x (vs.length + 1) 0 vs.length) (AllAt m₁ [(Str.ofString "lo", .int lo t1), (Str.ofString "hi", .int hi t2), (Str.ofString "a", .ref l), (Str.ofString "x", .int x tx), (Str.ofString "key", .ref kf)])))) F2 (by assumption) ⟨rfl, _, _, _, _, Int.le_refl _, Int.le_refl _, by omega, rfl, hm2⟩ ?_
  rintro n m₁ nx h₁ tk₁ F₁ N₁ ⟨rfl, lo, hi, t1, t2, hlo, hhi, hlt, hbl, hm⟩
  have F₁ := fr_over F₁ _ hm
  dsimp only [over] at F₁

  k_steps
  · have hmid := mid_of ‹lo < hi›
    obtain ⟨n, rfl⟩ := mid_fuel hlt ‹lo < hi›
    refine kept_of ?_
    rename Fr _ _ _ _ => F3
    rename News _ _ _ _ => N3
    have hml : ((lo + hi).fdiv 2).toNat < vs.length := mid_nat hlo hhi hmid
    refine item_at (hl.at fun o e => F3.keep _ _ e) (Int.le_trans hlo hmid.1) (mid_63 hn hhi hmid) (List.getElem?_eq_getElem hml) ?_ (by with_unfolding_all rfl)
    k_steps
    rename Fr _ _ _ _ => F4
    rename News _ _ _ _ => N4
    refine PCallK.use (hkey _ _ (List.getElem?_eq_getElem hml)) (by assumption) F4 N4 (by assumption) (by assumption) (by first | exact rfl | assumption) (by first | exact un1 (by assumption) (by decide) | exact un2 (by assumption) (by decide) | exact un3 (by assumption) (by decide) | exact un0 (by assumption) (by decide) | ktr_room) (by first | exact un1 (by assumption) (by decide) | exact un2 (by assumption) (by decide) | exact un3 (by assumption) (by decide) | exact un0 (by assumption) (by decide) | ktr_units) (stab _ _ F4.keep hP) fun v9 h9 t9 k9 p9 F9 N9 => ?_
    obtain ⟨t8, rfl⟩ := p9

    try dsimp only
    k_steps
    · exact ⟨_, _, _, _, _, rfl, by assumption, by assumption, Nat.lt_succ_self _, rfl, lo, (lo + hi).fdiv 2, _, _, hlo, Int.le_trans (Int.le_of_lt hmid.2) hhi, mid_b hmid hlt, (by rw [← hbl]; rw [brK_succ, if_pos (by assumption), if_pos (by assumption)]), rfl, rfl, rfl, rfl, rfl, trivial⟩
    · exact ⟨_, _, _, _, _, rfl, by assumption, by assumption, Nat.lt_succ_self _, rfl, (lo + hi).fdiv 2 + 1, hi, _, _, mid_s hlo hmid, hhi, mid_a hmid hlt, (by rw [← hbl]; rw [brK_succ, if_pos (by assumption), if_neg (by assumption)]), rfl, rfl, rfl, rfl, rfl, trivial⟩
  · refine hret _ _ _ (by assumption) ⟨t1, ?_⟩
    rw [← hbl]
    cases n with
    | zero => rfl
    | succ n => rw [brK_succ, if_neg (by assumption)]
end
end
section
example : True := by
  k_with_none
  k_with "LeaveF" => (refine leaveF_ (by k_asm) ?_; intro kk; (try dsimp only))
  k_with "Shut" => (refine shut (by assumption) ?_; (try dsimp only))
  k_with "execs cons" => (refine shutX ?_; intro tX PX hPX)
  k_with "exec For Name Call cons nil" => (k_here; refine held ?_)
  k_with "exec For Tuple Call cons nil" => (k_here; refine held ?_)
  k_with "exec For Name Name cons nil" => (k_here; refine held ?_)
  k_with "exec For Tuple Name cons nil" => (k_here; refine held ?_)
  k_with "exec While" => (k_here; refine held ?_)
  trivial
theorem nameX_cellH {M : Model} {A : Around} {E : Value → Shared → Prop} {s : Shared} {h₀ : Heap} {L a : Addr} {m : Str → Option Value} {cn : Str} {cs : Scope} {ccd : Value} {cl : List (Str × Addr)} {x : Str} {pos : Pos} {v : Value} {Q : Value → Shared → Prop} {c : Addr} {o : Obj} (F : Fr h₀ L s.heap m) (hc : cl.lookup x = some c) (ho : h₀.get? c = some o) (hd : o.data = .cell (some v)) (h : Q v s)
    (hk : cs.kind = .function) (hx : (envX cn cs L a ccd cl).kindOf x = some .free) (hb : (x == ("__debug__" : Str)) = false) (hn : (x == ("__classdict__" : Str)) = false) :
    wpAny M A (eval (.Name x pos) (envX cn cs L a ccd cl)) Q E s := wpAny_Name (wpAny_loadName_free hk hx hc ⟨_, F.keep _ _ ho, hd⟩ h hn) hb
example : True := by
  k_with_none
  k_with "LeaveF" => (refine leaveF_ (by k_asm) ?_; intro kk; (try dsimp only))
  k_with "Shut" => (refine shut (by assumption) ?_; (try dsimp only))
  k_with "execs cons" => (refine shutX ?_; intro tX PX hPX)
  k_with "exec For Name Call cons nil" => (k_here; refine held ?_)
  k_with "exec For Tuple Call cons nil" => (k_here; refine held ?_)
  k_with "exec For Name Name cons nil" => (k_here; refine held ?_)
  k_with "exec For Tuple Name cons nil" => (k_here; refine held ?_)
  k_with "exec While" => (k_here; refine held ?_)
  k_with "eval Name" => (k_here; k_dflt (refine' nameX_cellH ?F ?c ?o ?d ?_ ?a ?b (by decide) (by decide); (case a => rfl); (case b => rfl); (case F => k_asm); (case c => rfl); (case o => assumption); (case d => assumption)))
  trivial
local macro_rules | `(tactic| k_inst) => `(tactic| exact inst_up (by first | exact Fr.keep (by assumption) | exact fun _ _ e => e) (by assumption) (by assumption))
section
variable {prog : Program} {w : World} {A A₀ : Around} {s : Shared} {K : Frag} {L : Addr} {h₀ base : Heap} {m mg mb : Str → Option Value} {p : Program} {loose : List Str} {mean : ExcName → Option Value}
theorem code_LF {hs : Heap} {gS : Array GenState} {dS : Drawn} {tS : Nat} {oS : OsState} {env : Env} {outer : List Env} {R : Result → Shared → Prop} {name qual : Str} {params : Arguments} {body : Expr} {scope : Scope} {cl : List (Str × Addr)} {pm ctv : Value} {c' : Addr} {f : Addr} {args : Args} {binds : List (Str × Value)}
    (B : Below A₀ base outer h₀) (F : Fr h₀ L hs m) (X₀ : K.In h₀) (T : Top p loose mean mg mb h₀) (hA : A.frames = some (env :: outer)) (hf : env.frame = some L) (hke : env.scope.kind = .function)
    (ho : hs.get? f = some (kla_obj name qual params body scope cl pm c' ctv)) (hcd : hs.CodeRec (.ref c') qual) (hroom : A.depth < recursionLimit)
    (hbind : bindArgs (kla_fn name qual params body scope cl pm (.ref c') ctv) args = pure binds) (hloc : ∀ y ∈ binds, scope.names.lookup y.1 = some .local)
    (h : ∀ L' h₁, Fr hs L' h₁ (fun y => binds.reverse.lookup y) → News hs L' h₁ [] → Below A base (env :: outer) hs → K.In hs → Top p loose mean mg mb hs →
      wpAny (model prog w) (A.deeper (envX qual scope L' f (.ref c') cl)) (eval body (envX qual scope L' f (.ref c') cl))
        (fun v s' => LeaveF hs R v s')
        (fun e s' => wpAny (model prog w) (A.deeper (envX qual scope L' f (.ref c') cl)) (leaving (envX qual scope L' f (.ref c') cl) e) (fun _ s'' => R (.error e) s'') (fun e' s'' => R (.error e') s'') s')
        { heap := h₁, gens := gS, drawn := dS, toks := tS + binds.length, os := oS })
    (hco : scope.isCoroutine = false) (hgen : scope.isGenerator = false) (hk : scope.kind = .function)
    (hcell : ∀ x ∈ scope.names, x.2 ≠ .cell) : codeAny (model prog w) A (.call (.ref f) args) R { heap := hs, gens := gS, drawn := dS, toks := tS, os := oS } := by
  refine kla_callFunE hroom ho rfl hco hgen rfl hcd ?_
  rw [hbind]
  refine wpAny_pure (wpAny_newFunctionEnv hcell hloc (fun h₁ hns hsb => ⟨((T.nolimit).keeps F.keep).fresh _ hsb, ?_⟩) hk)
  show codeAny _ _ (.expr body (envX qual scope hs.objs.size f (.ref c') cl)) _ _
  have hk₁ : ∀ b o, hs.get? b = some o → h₁.get? b = some o := fun b o e => hsb.extBut b o (Nat.ne_of_lt (Heap.lt_size e)) (Heap.get?_push_of_some _ e)
  have B₁ := pushX B F hf hke
  exact kla_codeExpr (wpAny_mono (h hs.objs.size h₁ ⟨hns, hk₁, Nat.le_refl _⟩ News.nil ⟨hA, fun b o e => F.keep b o (B.stays b o e), B₁.frames⟩ (X₀.keeps F.keep) (T.keeps F.keep)) (fun v s' hl => hl.2) fun _ _ y => y)
end
theorem RowS.up {h h' : Heap} {v : Value} {q : RowV} (x : RowS h v q) (k : ∀ b o, h.get? b = some o → h'.get? b = some o) : RowS h' v q := by
  obtain ⟨T, t1, t2, t3, t4, rfl, o, ho, r⟩ := x
  exact ⟨T, t1, t2, t3, t4, rfl, o, k _ _ ho, r⟩
theorem KeyAt.up {h h' : Heap} {v : Value} {q : Int × Int} (x : KeyAt h v q) (k : ∀ b o, h.get? b = some o → h'.get? b = some o) : KeyAt h' v q := by
  obtain ⟨T, t1, t2, rfl, o, ho, r⟩ := x
  exact ⟨T, t1, t2, rfl, o, k _ _ ho, r⟩
theorem CompAt.up {w : World} {h h' : Heap} {tc : Addr} {keys : List (Int × Int)} (x : CompAt w h tc keys) (k : ∀ b o, h.get? b = some o → h'.get? b = some o) : CompAt w h' tc keys := by
  obtain ⟨d, tk, kl, h1, h2, vs, hl, hv⟩ := x
  exact ⟨d, tk, kl, k _ _ h1, k _ _ h2, vs, hl.at fun o e => k _ _ e, paired_mono (fun _ _ y => KeyAt.up y k) hv⟩
noncomputable def lamParts (w : World) (f : Addr) : Option (Arguments × Expr × Scope) := match (Mine.hd.heap_39 w.params).lookup f with
  | some ⟨_, _, .func fd, _⟩ => (match fd.body with
    | .stmts [.Expr (.Call _ _ [⟨_, .Lambda a b s _, _⟩] _) _] => some (a, b, s)
    | .stmts [.Return (some (.Call _ _ [⟨_, .Lambda a b s _, _⟩] _)) _] => some (a, b, s)
    | _ => none)
  | _ => none
noncomputable def LamAt (h : Heap) (f : Addr) (qual : Str) (parts : Arguments × Expr × Scope) (row tc : Addr) : Prop :=
  (Ex5 fun name pm c' ctv cr => Ex3 fun cw orw ow => Al5 (h.get? f = some (kla_obj name qual parts.1 parts.2.1 parts.2.2 [("walk", cw), ("row", cr)] pm c' ctv)) (h.CodeRec (.ref c') qual) (h.get? cr = some orw) (orw.data = .cell (some (.ref row))) ((h.get? cw = some ow) ∧ (ow.data = .cell (some (.ref tc)))))
set_option maxHeartbeats 16000000 in
theorem lam_spec {w : World} (fa f : Addr) (hfa : fa = 107 ∨ fa = 114) (qual : Str) (parts : Arguments × Expr × Scope) (hp : lamParts w fa = some parts) (row one tc : Addr) (keys : List (Int × Int)) (ql qr : RowV) (hcol : ∀ k ∈ keys, k.1 = 0 ∨ k.1 = 1 ∨ k.1 = 2 ∨ k.1 = 3) :
   PCallK w f [.ref one] [] 12 60 (fun h => LamAt h f qual parts row tc ∧ CompAt w h tc keys ∧ RowS h (.ref one) ql ∧ RowS h (.ref row) qr) (fun _ _ v => ∃ t, v = .int (cmpF ql qr keys) t) := by
  unfold PCallK
  intro p loose mean mg mb dp un gd cn cs' a ccd cl outer A₀ base h₀ L m s gS dS tS oS Q E B F X T hk hd hu hpre hret
  obtain ⟨⟨name, pm, c', ctv, cr, cw, orw, ow, ho, hcd, hr1, hr2, hw1, hw2⟩, hcomp, hl, hr⟩ := hpre
  rcases hfa with rfl | rfl
  all_goals
    unfold lamParts at hp
    first
      | (have e := (show (Mine.hd.heap_39 w.params).lookup 107 = some ⟨_, _, .func (fnOf _ _ _ _ _ _ _ _ _ _ _ _), _⟩ from by k_is); rw [e] at hp)
      | (have e := (show (Mine.hd.heap_39 w.params).lookup 114 = some ⟨_, _, .func (fnOf _ _ _ _ _ _ _ _ _ _ _ _), _⟩ from by k_is); rw [e] at hp)
    dsimp only at hp
    cases hp
    dsimp only at ho
    refine wpAny_call ?_
    refine' code_LF ?k1 ?k2 ?k3 ?k5 ?kA ?kF ?kK ?k6 ?k7 ?k8 ?k9 ?kB ?_ ?c2 ?c3 ?c4 ?c5
    case kA => exact rfl
    case kF => exact rfl
    case kK => assumption
    case k1 => k_asm
    case k2 => k_asm
    case k3 => k_asm
    case k5 => k_asm
    case k6 => exact ho
    case k7 => exact hcd
    case k8 => first | exact Nat.lt_of_le_of_lt (Nat.le_add_right _ _) (by assumption) | exact un0 (by assumption) (by decide) | exact un1 (by assumption) (by decide) | ktr_room
    case k9 => exact rfl
    case kB => exact locs rfl
    case c2 => exact rfl
    case c3 => exact rfl
    case c4 => exact rfl
    case c5 => decide
    intro L1 h1 F1 N1 B1 X1 T1
    try dsimp only
    obtain ⟨d, tk, kl, hi1, hi2, hkl⟩ := id hcomp
    k_steps
    rename Fr _ _ _ _ => F2
    rename News _ _ _ _ => N2
    refine PCall.use (compare_spec tc one row keys ql qr hcol) (by assumption) F2 N2 (by assumption) (by assumption) (by first | exact rfl | assumption) (by first | exact un1 (by assumption) (by decide) | exact un2 (by assumption) (by decide) | exact un3 (by assumption) (by decide) | exact un0 (by assumption) (by decide) | ktr_room) (by first | exact un1 (by assumption) (by decide) | exact un2 (by assumption) (by decide) | exact un3 (by assumption) (by decide) | exact un0 (by assumption) (by decide) | ktr_units) ⟨hcomp.up F2.keep, hl.up F2.keep, hr.up F2.keep⟩ fun v9 h9 t9 k9 p9 F9 N9 => ?_
    obtain ⟨t8, rfl⟩ := p9
    try dsimp only
    k_steps
    exact hret _ _ _ (by assumption) ⟨_, rfl⟩
end
section
section
example : True := by
  k_with_none
  k_with "LeaveF" => (refine leaveF_ (by k_asm) ?_; intro kk; (try dsimp only))
  k_with "Shut" => (refine shut (by assumption) ?_; (try dsimp only))
  k_with "execs cons" => (refine shutX ?_; intro tX PX hPX)
  k_with "exec For Name Call cons nil" => (k_here; refine held ?_)
  k_with "exec For Tuple Call cons nil" => (k_here; refine held ?_)
  k_with "exec For Name Name cons nil" => (k_here; refine held ?_)
  k_with "exec For Tuple Name cons nil" => (k_here; refine held ?_)
  k_with "exec While" => (k_here; refine held ?_)
  k_with "call ref" => (k_here; (with_reducible show wpAny _ _ (call (Value.ref _) _ _) _ _ _); refine held ?_)
  k_with "call builtin:list.insert" => (k_here; refine held ?_)
  k_with "UnrEndW" => refine held ?_
  trivial
variable {prog : Program} {w : World} {A A₀ : Around} {s : Shared} {K : Frag} {L : Addr} {h₀ base : Heap} {m mg mb : Str → Option Value} {p : Program} {loose : List Str} {mean : ExcName → Option Value} {tabs : List (Addr × Obj)}
theorem code_FG {hs : Heap} {gS : Array GenState} {dS : Drawn} {tS : Nat} {oS : OsState} {env : Env} {outer : List Env} {R : Result → Shared → Prop} {name qual : Str} {params : Arguments} {body : List Stmt} {scope : Scope} {dV kV doc pm cdv ct oc : Value} {an od : Option Addr} {osl : Array (Option Value)} {f : Addr} {args : Args} {binds : List (Str × Value)}
    (B : Below A₀ base outer h₀) (F : Fr h₀ L hs m) (N : News h₀ L hs tabs) (X₀ : K.In h₀) (T : Top p loose mean mg mb h₀) (hA : A.frames = some (env :: outer)) (hf : env.frame = some L) (hke : env.scope.kind = .function)
    (ho : K.lookup f = some ⟨oc, od, .func (fnOf name qual params body scope dV kV doc pm an cdv ct), osl⟩) (hcd : codeIn K cdv qual = true) (hroom : A.depth < recursionLimit)
    (hbind : BindsTo { heap := hs, gens := gS, drawn := dS, toks := tS, os := oS } (fnOf name qual params body scope dV kV doc pm an cdv ct) args binds) (hloc : ∀ y ∈ binds, scope.names.lookup y.1 = some .local)
    (h : ∀ g L' h₁, (∀ b o, g.get? b = some o → hs.get? b = some o) → (∀ b o, b ∉ tabs.map (·.1) → hs.get? b = some o → g.get? b = some o) → Upk h₀ g → Fr g L' h₁ (fun y => binds.reverse.lookup y) → News g L' h₁ tabs → Below A base (env :: outer) g → K.In g → Top p loose mean mg mb g → (∀ p ∈ tabs, p.1 < L') →
      wpAny (model prog w) (A.deeper (envOf qual scope L' f cdv)) (execs body (envOf qual scope L' f cdv))
        (fun fl s' => LeaveF g R (match fl with | .ret v => v | _ => .none) s')
        (fun e s' => wpAny (model prog w) (A.deeper (envOf qual scope L' f cdv)) (leaving (envOf qual scope L' f cdv) e) (fun _ s'' => R (.error e) s'') (fun e' s'' => R (.error e') s'') s')
        { heap := h₁, gens := gS, drawn := dS, toks := tS + binds.length, os := oS })
    (hco : scope.isCoroutine = false) (hgen : scope.isGenerator = false) (hk : scope.kind = .function)
    (hcell : ∀ x ∈ scope.names, x.2 ≠ .cell) : codeAny (model prog w) A (.call (.ref f) args) R { heap := hs, gens := gS, drawn := dS, toks := tS, os := oS } := by
  obtain ⟨FG, BG, st, _⟩ := groundX (s := { heap := hs, gens := gS, drawn := dS, toks := tS, os := oS }) (R := R) B F N hA hf hke
  refine codeAny_call_def (fd := fnOf name qual params body scope dV kV doc pm an cdv ct) (body := body) (binds := binds) hroom ((X₀.keeps F.keep) _ _ ho) rfl (T.nolimit.keeps F.keep) (codeRec_of (X₀.keeps F.keep) hcd) rfl hbind hcell hloc (fun h₁ hns hk₁ => ?_) hco hgen hk
  exact wpAny_mono (h _ hs.objs.size h₁ (fun b o e => of_hideAll _ e) (fun b o hb e => hideAll_get _ e hb) st ⟨hns, fun b o e => hk₁ b o (of_hideAll _ e), Nat.le_of_eq (hideAll_size _ _)⟩
    (fun p hp => ⟨hk₁ _ _ (N p hp).1, Nat.ne_of_lt (Heap.lt_size (N p hp).1), hideAll_none _ (List.mem_map_of_mem hp)⟩) BG (X₀.keeps st) (T.keeps st) (fun p hp => Heap.lt_size (N p hp).1)) (fun fl s' hl => hl.2) fun _ _ y => y
end
theorem RowS.upC {h h' : Heap} {v : Value} {q : RowV} (x : RowS h v q) (k : ∀ b o, o.cls ≠ .none → h.get? b = some o → h'.get? b = some o) : RowS h' v q := by
  obtain ⟨T, t1, t2, t3, t4, rfl, o, ho, hc, r⟩ := x
  exact ⟨T, t1, t2, t3, t4, rfl, o, k _ _ (by rw [hc]; nofun) ho, hc, r⟩
theorem KeyAt.upC {h h' : Heap} {v : Value} {q : Int × Int} (x : KeyAt h v q) (k : ∀ b o, o.cls ≠ .none → h.get? b = some o → h'.get? b = some o) : KeyAt h' v q := by
  obtain ⟨T, t1, t2, rfl, o, ho, hc, r⟩ := x
  exact ⟨T, t1, t2, rfl, o, k _ _ (by rw [hc]; nofun) ho, hc, r⟩
theorem CompAt.upC {w : World} {h h' : Heap} {tc : Addr} {keys : List (Int × Int)} (x : CompAt w h tc keys) (k : ∀ b o, o.cls ≠ .none → h.get? b = some o → h'.get? b = some o) : CompAt w h' tc keys := by
  obtain ⟨d, tk, kl, h1, h2, vs, ⟨o, ho, hc, r⟩, hv⟩ := x
  exact ⟨d, tk, kl, k _ _ (by nofun) h1, k _ _ (by nofun) h2, vs, ⟨o, k _ _ (by rw [hc]; nofun) ho, hc, r⟩, paired_mono (fun _ _ y => KeyAt.upC y k) hv⟩
theorem listed_upC {h h' : Heap} {c : Addr} {cs : List RowV} (x : ListedAt RowS h c cs) (k : ∀ b o, o.cls ≠ .none → h.get? b = some o → h'.get? b = some o) : ListedAt RowS h' c cs := by
  obtain ⟨vs, ⟨o, ho, hc, r⟩, hv⟩ := x
  exact ⟨vs, ⟨o, k _ _ (by rw [hc]; nofun) ho, hc, r⟩, paired_mono (fun _ _ y => RowS.upC y k) hv⟩
theorem LamAt.up {h h' : Heap} {f : Addr} {qual : Str} {parts : Arguments × Expr × Scope} {row tc : Addr} (x : LamAt h f qual parts row tc) (k : ∀ b o, h.get? b = some o → h'.get? b = some o) : LamAt h' f qual parts row tc := by
  obtain ⟨name, pm, c', ctv, cr, cw, orw, ow, h1, ⟨c2, oc, vs, t, e, hoc, r⟩, h3, h4, h5, h6⟩ := x
  exact ⟨name, pm, c', ctv, cr, cw, orw, ow, k _ _ h1, ⟨c2, oc, vs, t, e, k _ _ hoc, r⟩, k _ _ h3, h4, k _ _ h5, h6⟩
noncomputable def KeyP (w : World) (f : Addr) (qual : Str) (parts : Arguments × Expr × Scope) (row tc : Addr) (keys : List (Int × Int)) (q : RowV) (its : List Value) (ls : List RowV) (h : Heap) : Prop :=
  LamAt h f qual parts row tc ∧ CompAt w h tc keys ∧ RowS h (.ref row) q ∧ Paired (RowS h) its ls
theorem KeyP.up {w : World} {f : Addr} {qual : Str} {parts : Arguments × Expr × Scope} {row tc : Addr} {keys : List (Int × Int)} {q : RowV} {its : List Value} {ls : List RowV} (h h' : Heap) (k : Upk h h') (x : KeyP w f qual parts row tc keys q its ls h) : KeyP w f qual parts row tc keys q its ls h' :=
  ⟨x.1.up k, x.2.1.up k, x.2.2.1.up k, paired_mono (fun _ _ y => RowS.up y k) x.2.2.2⟩
theorem KeyP.fn {w : World} {f : Addr} {qual : Str} {parts : Arguments × Expr × Scope} {row tc : Addr} {keys : List (Int × Int)} {q : RowV} {its : List Value} {ls : List RowV} (h : Heap) (x : KeyP w f qual parts row tc keys q its ls h) : (Ex2 fun o fd => h.get? f = some o ∧ o.data = .func fd) := by
  obtain ⟨⟨name, pm, c', ctv, cr, cw, orw, ow, h1, _⟩, _⟩ := x
  exact ⟨_, _, h1, rfl⟩
theorem key_ok {w : World} {g : Heap} (fa f : Addr) (hfa : fa = 107 ∨ fa = 114) (qual : Str) (parts : Arguments × Expr × Scope) (hp : lamParts w fa = some parts) (row tc : Addr) (keys : List (Int × Int)) (q : RowV) (its : List Value) (ls : List RowV) (hcol : ∀ k ∈ keys, k.1 = 0 ∨ k.1 = 1 ∨ k.1 = 2 ∨ k.1 = 3) (hits : Paired (RowS g) its ls) :
    KeyOk w f (KeyP w f qual parts row tc keys q its ls) its (ls.map fun o => cmpF o q keys) := by
  intro i v hv p loose mean mg mb dp un gd cn cs a ccd cl outer A₀ base h₀ L m s gS dS tS oS Q E B F X T hk hd hu hpre hret
  obtain ⟨ql, hql, hrv⟩ := paired_get hits hv
  obtain ⟨T1, u1, u2, u3, u4, rfl, _⟩ := hrv
  obtain ⟨q2, hq2, hrow⟩ := paired_get hpre.2.2.2 hv
  rw [hql] at hq2
  cases hq2
  refine lam_spec fa f hfa qual parts hp row T1 tc keys ql q hcol p loose mean mg mb dp un gd cn cs a ccd cl outer A₀ base h₀ L m s gS dS tS oS Q E B F X T hk hd hu ⟨hpre.1, hpre.2.1, hrow, hpre.2.2.1⟩ fun v h' tk' k ⟨t, e⟩ => hret v h' tk' k ⟨t, ?_⟩
  rw [e, List.getD_eq_getElem?_getD, List.getElem?_map, hql]
  rfl
noncomputable def insV {α : Type} (l : List α) (x : Int) (y : α) : List α := l.take (min x.toNat l.length) ++ y :: l.drop (min x.toNat l.length)
theorem insV_len {α : Type} (l : List α) (x : Int) (y : α) : (insV l x y).length = l.length + 1 := by
  unfold insV
  rw [List.length_append, List.length_cons, ← Nat.add_assoc, ← List.length_append, List.take_append_drop]
theorem fits_small {z : Int} {n : Nat} (h : 0 ≤ z ∧ z ≤ (n : Int)) (hn : n ≤ 1000) : Builtin.List.listFitsIndex z = true := by
  unfold Builtin.List.listFitsIndex
  simp
  omega
theorem kl_ins_at (its : List Value) {x : Int} (h : 0 ≤ x) (y : Value) : kl_ins (its.toArray).toList x y = insV its x y := by
  unfold kl_ins insV
  rw [if_neg (by omega)]
theorem paired_take {α β : Type} {F : α → β → Prop} {l : List α} {r : List β} (x : Paired F l r) : ∀ k, Paired F (l.take k) (r.take k) := by
  induction x with
  | nil => intro k; rw [List.take_nil, List.take_nil]; exact .nil
  | cons f _ ih => intro k; cases k with
    | zero => exact .nil
    | succ k => exact .cons f (ih k)
theorem paired_drop {α β : Type} {F : α → β → Prop} {l : List α} {r : List β} (x : Paired F l r) : ∀ k, Paired F (l.drop k) (r.drop k) := by
  induction x with
  | nil => intro k; rw [List.drop_nil, List.drop_nil]; exact .nil
  | cons f x ih => intro k; cases k with
    | zero => exact .cons f x
    | succ k => exact ih k
theorem paired_ins {α β : Type} {F : α → β → Prop} {l : List α} {r : List β} (x : Paired F l r) (k : Int) {a : α} {b : β} (f : F a b) : Paired F (insV l k a) (insV r k b) := by
  unfold insV
  rw [x.length]
  exact paired_append (paired_take x _) (.cons f (paired_drop x _))
theorem brK_bd (g : List Int) (x : Int) : ∀ (n : Nat) {lo hi : Int}, 0 ≤ lo → lo ≤ hi → 0 ≤ brK g x n lo hi ∧ brK g x n lo hi ≤ hi
  | 0, lo, hi, h, h2 => ⟨h, h2⟩
  | n + 1, lo, hi, h, h2 => by
    rw [brK_succ]
    by_cases c : lo < hi
    · have := mid_of c
      rw [if_pos c]
      split
      · have := brK_bd g x n (lo := lo) (hi := (lo + hi).fdiv 2) h (by omega)
        omega
      · exact brK_bd g x n (by omega) (by omega)
    · rw [if_neg c]; exact ⟨h, h2⟩
noncomputable def keysTo (keys : List (Int × Int)) (row : RowV) (l : List RowV) : List Int := l.map fun o => cmpF o row keys
noncomputable def lay1 (keys : List (Int × Int)) (l : List RowV) (row : RowV) : List RowV := insV l (brK (keysTo keys row l) (cmpF row row keys) (l.length + 1) 0 l.length) row
noncomputable def place1 (keys : List (Int × Int)) (l : List RowV) (row : RowV) : Int := blK (keysTo keys row l) 0 (l.length + 1) 0 l.length
noncomputable def wordS (keys : List (Int × Int)) (rows : List RowV) : Str := rows.foldl (fun x row => x ++ Txt.item (Str.ofString "abcde") (place1 keys (rows.foldl (lay1 keys) []) row)) (Str.ofString "")
noncomputable def Tab102 (lo : Addr) (led : List (Addr × Obj)) : Prop := led = [(102, tabObj #[])] ∨ (Ex4 fun c' oc vs t => Al4 (lo < c') (led = [(102, tabObj #[rawInt 95, rawInt 32, .ref c']), (c', oc)]) (oc.data = .fields vs) (vs[1]? = some (.str (Str.ofString "_law_lay.<locals>.<lambda>") t)))
noncomputable def Tab109 (lo : Addr) (led : List (Addr × Obj)) : Prop := led = [(109, tabObj #[])] ∨ (Ex4 fun c' oc vs t => Al4 (lo < c') (led = [(109, tabObj #[rawInt 97, rawInt 36, .ref c']), (c', oc)]) (oc.data = .fields vs) (vs[1]? = some (.str (Str.ofString "_law_place.<locals>.<lambda>") t)))
theorem tab_news {g h : Heap} {L f c' c1 c2 I l P P2 : Addr} {of oc o1 o2 o ol t9 : Obj} {a b c : Value} (N : News g L h [(f, of), (c', oc), (c1, o1), (c2, o2), (I, o), (l, ol), (P2, t9), (P, tabObj (#[] ++ #[a, b, c]))]) :
    News g L h [(I, o), (l, ol), (P2, t9), (P, tabObj #[a, b, c]), (c', oc)] := fun p hp => N p (by
  rcases List.mem_cons.mp hp with h | hp
  · rw [h]; k_mem
  rcases List.mem_cons.mp hp with h | hp
  · rw [h]; k_mem
  rcases List.mem_cons.mp hp with h | hp
  · rw [h]; k_mem
  rcases List.mem_cons.mp hp with h | hp
  · rw [h]; exact .tail _ (.tail _ (.tail _ (.tail _ (.tail _ (.tail _ (.tail _ (.head _)))))))
  rw [List.mem_singleton.mp hp]; k_mem)
theorem tab_news2 {g h : Heap} {L f c1 c2 I : Addr} {of o1 o2 o : Obj} {r : List (Addr × Obj)} (N : News g L h ((f, of) :: (c1, o1) :: (c2, o2) :: (I, o) :: r)) : News g L h ((I, o) :: r) := fun p hp => N p (by
  rcases List.mem_cons.mp hp with h | h <;> simp [h])
set_option maxHeartbeats 16000000 in
theorem word_spec {w : World} (rl tc : Addr) (rows : List RowV) (keys : List (Int × Int)) (hn : rows.length = 5) (hcol : ∀ k ∈ keys, k.1 = 0 ∨ k.1 = 1 ∨ k.1 = 2 ∨ k.1 = 3)
   (hpl : ∀ row ∈ rows, 0 ≤ place1 keys (rows.foldl (lay1 keys) []) row ∧ place1 keys (rows.foldl (lay1 keys) []) row < 5)
   {p : Program} {loose : List Str} {mean : ExcName → Option Value} {mg mb : Str → Option Value} {dp un : Nat} {gd : Option (List Code)} {cn : Str} {cs : Scope} {a : Addr} {ccd : Value} {cl : List (Str × Addr)} {outer : List Env} {A₀ : Around} {base h₀ : Heap} {L : Addr} {m : Str → Option Value} {s : Heap} {gS : Array GenState} {dS : Drawn} {tS : Nat} {oS : OsState} {Q E : Value → Shared → Prop}
   (B : Below A₀ base outer h₀) (F : Fr h₀ L s m) (N : News h₀ L s [(109, tabObj #[]), (102, tabObj #[])]) (X : (Mine.hd.heap_39 w.params).In h₀) (T : Top p loose mean mg mb h₀) (hk : cs.kind = .function) (hd : dp + 30 < recursionLimit) (hu : un + 160 < cLine)
   (hc1 : CodeHd h₀ 113 109) (hc2 : CodeHd h₀ 106 102) (hrows : ListedAt RowS s rl rows) (hcomp : CompAt w s tc keys)
   (hret : ∀ h' tk' t, (∀ b o, b ≠ 109 → b ≠ 102 → s.get? b = some o → h'.get? b = some o) → GrownAt 109 h' → GrownAt 102 h' → Q (.str (wordS keys rows) t) { heap := h', gens := gS, drawn := dS, toks := tk', os := oS }) :
   wpAny (model PR w) (ktrTop dp un gd cn cs L a ccd cl outer) (call (.ref 121) [.ref rl, .ref tc]) Q E { heap := s, gens := gS, drawn := dS, toks := tS, os := oS } := by
  refine wpAny_call ?_
  refine' code_FG ?k1 ?k2 ?kN ?k3 ?k5 ?kA ?kF ?kK ?k6 ?k7 ?k8 ?k9 ?kB ?_ ?c2 ?c3 ?c4 ?c5
  case kA => exact rfl
  case kF => exact rfl
  case kK => assumption
  case k1 => k_asm
  case k2 => k_asm
  case kN => exact N
  case k3 => k_asm
  case k5 => k_asm
  case k6 => k_is
  case k7 => k_is
  case k8 => first | exact Nat.lt_of_le_of_lt (Nat.le_add_right _ _) (by assumption) | exact un0 (by assumption) (by decide) | exact un1 (by assumption) (by decide) | ktr_room
  case k9 => exact BindsTo.of_eq rfl
  case c5 => decide
  case kB => exact locs rfl
  case c2 => exact rfl
  case c3 => exact rfl
  case c4 => exact rfl
  intro gW LW hW hgs hsg hst FW NW BW XW TW lW
  have hsg' : ∀ b o, o.cls ≠ .none → s.get? b = some o → gW.get? b = some o := fun b o hb e => hsg b o (fun hm => by
    simp only [List.map_cons, List.map_nil, List.mem_cons, List.not_mem_nil, or_false] at hm
    rcases hm with rfl | rfl
    · rw [(N _ (.head _)).1] at e; cases e; exact hb rfl
    · rw [(N _ (.tail _ (.head _))).1] at e; cases e; exact hb rfl) e
  replace hrows := listed_upC hrows hsg'
  replace hcomp := hcomp.upC hsg'
  have hc1 := hc1.keeps hst
  have hc2 := hc2.keeps hst
  k_lt lW
  dsimp only
  refine shutE ?_
  intro PW EW hEW hPW
  clear hsg' N F B X T
  obtain ⟨rvs, hrl, hrvs⟩ := hrows
  k_steps
  all_goals repeat ((first | (unfold Kept; (with_reducible show wpAny _ _ (call (Value.ref 21) [Value.str _ _, Value.str _ _]) _ _ _); k_dflt (refine' PCall.use (concat_spec _ _ _ _ ?hx ?hy) ?k1 ?k2 ?kN ?k3 ?k4 ?k5 ?kd ?ku trivial ?_); (case hx => first | ((try simp only [Str.length_append]); omega) | decide +kernel); (case hy => first | ((try simp only [Str.length_append]); omega) | decide +kernel); (case k1 => k_asm); (case k2 => k_asm); (case kN => k_asm); (case k3 => k_asm); (case k4 => k_asm); (case k5 => first | exact rfl | assumption); (case kd => first | exact un1 (by assumption) (by decide) | exact un2 (by assumption) (by decide) | ktr_room); (case ku => first | exact un1 (by assumption) (by decide) | exact un2 (by assumption) (by decide) | ktr_units); intro vQ hQ tQ kQ pQ FQ NQ; (obtain ⟨tQ, eQ⟩ := pQ); subst eQ; (try dsimp only); (try k_fold)) | (unfold Kept; (with_reducible show wpAny _ _ (exec (Stmt.For _ _ _ _ _) _) _ _ _); k_dflt (refine' For_turns ?kF ?_; (case kF => k_asm); k_whole))); k_steps)
  rename Fr _ _ _ _ => F1
  rename News _ _ _ _ => N1
  obtain ⟨m1, F1, l, N1, hll, hm1⟩ : ∃ m1, Fr gW LW _ m1 ∧ ∃ l, News gW LW _ ((l, listOf #[] 0) :: (109, tabObj #[]) :: (102, tabObj #[]) :: []) ∧ (109 < l ∧ 102 < l) ∧ ∃ tw, AllAt m1 [(Str.ofString "laid", .ref l), (Str.ofString "walk", .ref tc), (Str.ofString "rows", .ref rl), (Str.ofString "word", .str (Str.ofString "") tw)] :=
    ⟨_, F1, _, (fun p hp => N1 p (List.mem_cons_of_mem _ hp)), (by rename (_ < _ ∧ _ < _) => ll; exact ll), _, rfl, rfl, rfl, rfl, trivial⟩
  obtain ⟨tw, hm1⟩ := hm1
  refine iter_listBase rfl F1 N1 hrl fun I hI => ?_
  refine itemsRest_ind (RowS gW) (fun rem m news => Kept ((Ex4 fun its ls n led => Al5 (news = (l, listOf (List.toArray its) n) :: (109, tabObj #[]) :: led) (Tab102 I led) (Paired (RowS gW) its ls) (rem.foldl (lay1 keys) ls = rows.foldl (lay1 keys) []) ((ls.length + rem.length = 5) ∧ (AllAt m [(Str.ofString "laid", .ref l), (Str.ofString "walk", .ref tc), (Str.ofString "rows", .ref rl), (Str.ofString "word", .str (Str.ofString "") tw)]))))) ?step ?done hrvs _ _
    ⟨[], [], 0, [(102, tabObj #[])], rfl, .inl rfl, .nil, rfl, by simpa using hn, hm1⟩
  case step =>
    rintro v q rest m news hv ⟨its, ls, n, led, rfl, htab, hits, hfold, hlen, hm⟩ h tk F₁
    refine AllObj.cons fun o ho => AllObj.nil fun N₁ P1 hP1 => ?_
    have F₁ := fr_over F₁ _ hm
    dsimp only [over] at F₁
    dsimp only at ho
    dsimp only [List.cons_append, List.nil_append] at N₁
    have hlI : l < I := hI _ (List.mem_cons_self ..)
    k_lt2 hlI
    obtain ⟨hl1, hl2⟩ := hll
    k_lt2 hl1
    k_lt2 hl2
    clear F1 N1
    obtain ⟨Tr, t1, t2, t3, t4, rfl, hTr⟩ := id hv
    rcases htab with rfl | ⟨c', oc, vs, t, hci, rfl, hoc, hvs⟩
    · k_steps
      all_goals repeat ((first | (unfold Kept; (with_reducible show wpAny _ _ (call (Value.ref 21) [Value.str _ _, Value.str _ _]) _ _ _); k_dflt (refine' PCall.use (concat_spec _ _ _ _ ?hx ?hy) ?k1 ?k2 ?kN ?k3 ?k4 ?k5 ?kd ?ku trivial ?_); (case hx => first | ((try simp only [Str.length_append]); omega) | decide +kernel); (case hy => first | ((try simp only [Str.length_append]); omega) | decide +kernel); (case k1 => k_asm); (case k2 => k_asm); (case kN => k_asm); (case k3 => k_asm); (case k4 => k_asm); (case k5 => first | exact rfl | assumption); (case kd => first | exact un1 (by assumption) (by decide) | exact un2 (by assumption) (by decide) | ktr_room); (case ku => first | exact un1 (by assumption) (by decide) | exact un2 (by assumption) (by decide) | ktr_units); intro vQ hQ tQ kQ pQ FQ NQ; (obtain ⟨tQ, eQ⟩ := pQ); subst eQ; (try dsimp only); (try k_fold)) | (unfold Kept; (with_reducible show wpAny _ _ (exec (Stmt.For _ _ _ _ _) _) _ _ _); k_dflt (refine' For_turns ?kF ?_; (case kF => k_asm); k_whole))); k_steps)
      refine kept_of ?_
      (refine wpAny_call ?_; refine' code_defC ?k1 ?k2 ?k3 ?k4 ?k5 ?kA ?kF ?kK ?k6 ?k7 ?k8 ?k9 ?kB ?kD ?_ ?c2 ?c3 ?c4; (case kA => exact rfl); (case kF => exact rfl); (case kK => first | exact rfl | assumption); (case k1 => k_asm); (case k2 => k_asm); (case k3 => k_asm); (case k4 => k_asm); (case k5 => k_asm); (case k6 => k_is); (case k7 => k_is); (case k8 => first | exact Nat.lt_of_le_of_lt (Nat.le_add_right _ _) (by assumption) | exact un0 (by assumption) (by decide) | exact un1 (by assumption) (by decide) | ktr_room); (case k9 => first | exact BindsTo.of_eq rfl | exact binds_K (by k_in) rfl (by k_is) rfl rfl rfl); (case kB => exact rfl); (case kD => decide +kernel); (case c2 => exact rfl); (case c3 => exact rfl); (case c4 => exact rfl); k_whole; intro g' L' h' tk' cells' FG' F' N' Y' B' X' T' l1; (try k_lt l1); k_cells Y'; (try simp only [List.cons_append, List.nil_append] at N'); (try dsimp only); refine shutE ?_; intro P' E' hE' hP'; (try k_fold))
      rename (Fr gW LW _ _) => FG1
      have hc2g := hc2.keeps FG1.keep
      k_steps
      all_goals repeat ((first | (unfold Kept; (with_reducible show wpAny _ _ (call (Value.ref 21) [Value.str _ _, Value.str _ _]) _ _ _); k_dflt (refine' PCall.use (concat_spec _ _ _ _ ?hx ?hy) ?k1 ?k2 ?kN ?k3 ?k4 ?k5 ?kd ?ku trivial ?_); (case hx => first | ((try simp only [Str.length_append]); omega) | decide +kernel); (case hy => first | ((try simp only [Str.length_append]); omega) | decide +kernel); (case k1 => k_asm); (case k2 => k_asm); (case kN => k_asm); (case k3 => k_asm); (case k4 => k_asm); (case k5 => first | exact rfl | assumption); (case kd => first | exact un1 (by assumption) (by decide) | exact un2 (by assumption) (by decide) | ktr_room); (case ku => first | exact un1 (by assumption) (by decide) | exact un2 (by assumption) (by decide) | ktr_units); intro vQ hQ tQ kQ pQ FQ NQ; (obtain ⟨tQ, eQ⟩ := pQ); subst eQ; (try dsimp only); (try k_fold)) | (unfold Kept; (with_reducible show wpAny _ _ (exec (Stmt.For _ _ _ _ _) _) _ _ _); k_dflt (refine' For_turns ?kF ?_; (case kF => k_asm); k_whole))); k_steps)
      refine kept_of ?_
      (refine wpAny_call ?_; refine' code_def ?k1 ?k2 ?k3 ?k4 ?k5 ?kA ?kF ?kK ?k6 ?k7 ?k8 ?k9 ?kB ?_ ?c2 ?c3 ?c4 ?c5; (case kA => exact rfl); (case kF => exact rfl); (case kK => first | exact rfl | assumption); (case k1 => k_asm); (case k2 => k_asm); (case k3 => k_asm); (case k4 => k_asm); (case k5 => k_asm); (case k6 => k_is); (case k7 => k_is); (case k8 => first | exact Nat.lt_of_le_of_lt (Nat.le_add_right _ _) (by assumption) | exact un0 (by assumption) (by decide) | exact un1 (by assumption) (by decide) | ktr_room); (case k9 => first | exact binds_K (by k_in) rfl (by k_is) rfl rfl rfl | exact BindsTo.of_eq rfl); (case c5 => decide); (case kB => exact locs rfl); (case c2 => exact rfl); (case c3 => exact rfl); (case c4 => exact rfl); k_whole; intro g' L' h' FG' F' N' B' X' T'; (try dsimp only); refine shutE ?_; intro P' E' hE' hP'; (try k_fold))
      rename (Fr _ _ _ (bindL _ _ _)) => FG2
      k_steps
      all_goals repeat ((first | (unfold Kept; (with_reducible show wpAny _ _ (call (Value.ref 21) [Value.str _ _, Value.str _ _]) _ _ _); k_dflt (refine' PCall.use (concat_spec _ _ _ _ ?hx ?hy) ?k1 ?k2 ?kN ?k3 ?k4 ?k5 ?kd ?ku trivial ?_); (case hx => first | ((try simp only [Str.length_append]); omega) | decide +kernel); (case hy => first | ((try simp only [Str.length_append]); omega) | decide +kernel); (case k1 => k_asm); (case k2 => k_asm); (case kN => k_asm); (case k3 => k_asm); (case k4 => k_asm); (case k5 => first | exact rfl | assumption); (case kd => first | exact un1 (by assumption) (by decide) | exact un2 (by assumption) (by decide) | ktr_room); (case ku => first | exact un1 (by assumption) (by decide) | exact un2 (by assumption) (by decide) | ktr_units); intro vQ hQ tQ kQ pQ FQ NQ; (obtain ⟨tQ, eQ⟩ := pQ); subst eQ; (try dsimp only); (try k_fold)) | (unfold Kept; (with_reducible show wpAny _ _ (exec (Stmt.For _ _ _ _ _) _) _ _ _); k_dflt (refine' For_turns ?kF ?_; (case kF => k_asm); k_whole))); k_steps)
      refine kept_of ?_
      rename (Fr _ _ _ _) => F6
      rename (News _ _ _ _) => N6
      have up6 : ∀ b o, gW.get? b = some o → Heap.get? _ b = some o := fun b o e => F6.keep b o (FG2.keep b o (FG1.keep b o e))
      obtain ⟨f, parts, qual, hparts, hlam, hcall⟩ : (Ex3 fun f parts qual => Al3 (lamParts w 107 = some parts) (LamAt _ f qual parts Tr tc) (Value.ref f = Value.ref _)) := ⟨_, (_, _, _), _, (by unfold lamParts; rw [show (Mine.hd.heap_39 w.params).lookup 107 = some ⟨_, _, .func (fnOf _ _ _ _ _ _ _ _ _ _ _ _), _⟩ from by k_is]), ⟨_, _, _, _, _, _, _, _, (N6 _ (.head _)).1, codeRec_news N6 (by k_mem) (by assumption) (by assumption), (N6 _ (.tail _ (.tail _ (.tail _ (.head _))))).1, by assumption, (N6 _ (.tail _ (.tail _ (.head _)))).1, by assumption⟩, rfl⟩
      have hcall := Value.ref.inj hcall
      subst hcall
      have hit6 := paired_mono (fun _ _ y => RowS.up y up6) hits
      have hK6 : KeyP w f qual parts Tr tc keys q its ls _ := ⟨hlam, hcomp.up up6, hv.up up6, hit6⟩
      refine PCallK.use (lam_spec 107 f (.inl rfl) qual parts hparts Tr Tr tc keys q q hcol) (by assumption) F6 N6 (by assumption) (by assumption) (by first | exact rfl | assumption) (by first | exact un1 (by assumption) (by decide) | exact un2 (by assumption) (by decide) | exact un3 (by assumption) (by decide) | exact un0 (by assumption) (by decide) | ktr_room) (by first | exact un1 (by assumption) (by decide) | exact un2 (by assumption) (by decide) | exact un3 (by assumption) (by decide) | exact un0 (by assumption) (by decide) | ktr_units) ⟨hK6.1, hK6.2.1, hK6.2.2.1, hK6.2.2.1⟩ fun v9 h9 t9 k9 p9 F9 N9 => ?_
      obtain ⟨tx, rfl⟩ := p9
      have hK9 := hK6.up _ _ k9
      try dsimp only
      k_steps
      all_goals repeat ((first | (unfold Kept; (with_reducible show wpAny _ _ (call (Value.ref 21) [Value.str _ _, Value.str _ _]) _ _ _); k_dflt (refine' PCall.use (concat_spec _ _ _ _ ?hx ?hy) ?k1 ?k2 ?kN ?k3 ?k4 ?k5 ?kd ?ku trivial ?_); (case hx => first | ((try simp only [Str.length_append]); omega) | decide +kernel); (case hy => first | ((try simp only [Str.length_append]); omega) | decide +kernel); (case k1 => k_asm); (case k2 => k_asm); (case kN => k_asm); (case k3 => k_asm); (case k4 => k_asm); (case k5 => first | exact rfl | assumption); (case kd => first | exact un1 (by assumption) (by decide) | exact un2 (by assumption) (by decide) | ktr_room); (case ku => first | exact un1 (by assumption) (by decide) | exact un2 (by assumption) (by decide) | ktr_units); intro vQ hQ tQ kQ pQ FQ NQ; (obtain ⟨tQ, eQ⟩ := pQ); subst eQ; (try dsimp only); (try k_fold)) | (unfold Kept; (with_reducible show wpAny _ _ (exec (Stmt.For _ _ _ _ _) _) _ _ _); k_dflt (refine' For_turns ?kF ?_; (case kF => k_asm); k_whole))); k_steps)
      refine kept_of ?_
      rename (Fr _ _ _ _) => F10
      rename (News _ _ _ _) => N10
      have hlen6 := hits.length
      have hits5 : its.length ≤ 5 := by rw [hlen6, ← hlen]; exact Nat.le_add_right _ _
      refine PCallK.use (bisr_spec l f its (keysTo keys q ls) (cmpF q q keys) tx _ (KeyP w f qual parts Tr tc keys q its ls) KeyP.up KeyP.fn (Nat.le_trans hits5 (by decide)) (key_ok 107 f (.inl rfl) qual parts hparts Tr tc keys q its ls hcol hits)) (by assumption) F10 N10 (by assumption) (by assumption) (by first | exact rfl | assumption) (by first | exact un1 (by assumption) (by decide) | exact un2 (by assumption) (by decide) | exact un3 (by assumption) (by decide) | exact un0 (by assumption) (by decide) | ktr_room) (by first | exact un1 (by assumption) (by decide) | exact un2 (by assumption) (by decide) | exact un3 (by assumption) (by decide) | exact un0 (by assumption) (by decide) | ktr_units) ⟨⟨_, (N10 (l, listOf (List.toArray its) n) (by k_mem)).1, rfl, n, rfl⟩, hK9⟩ fun v11 h11 t11 k11 p11 F11 N11 => ?_
      obtain ⟨tp, rfl⟩ := p11
      try dsimp only
      k_steps
      all_goals repeat ((first | (unfold Kept; (with_reducible show wpAny _ _ (call (Value.ref 21) [Value.str _ _, Value.str _ _]) _ _ _); k_dflt (refine' PCall.use (concat_spec _ _ _ _ ?hx ?hy) ?k1 ?k2 ?kN ?k3 ?k4 ?k5 ?kd ?ku trivial ?_); (case hx => first | ((try simp only [Str.length_append]); omega) | decide +kernel); (case hy => first | ((try simp only [Str.length_append]); omega) | decide +kernel); (case k1 => k_asm); (case k2 => k_asm); (case kN => k_asm); (case k3 => k_asm); (case k4 => k_asm); (case k5 => first | exact rfl | assumption); (case kd => first | exact un1 (by assumption) (by decide) | exact un2 (by assumption) (by decide) | ktr_room); (case ku => first | exact un1 (by assumption) (by decide) | exact un2 (by assumption) (by decide) | ktr_units); intro vQ hQ tQ kQ pQ FQ NQ; (obtain ⟨tQ, eQ⟩ := pQ); subst eQ; (try dsimp only); (try k_fold)) | (unfold Kept; (with_reducible show wpAny _ _ (exec (Stmt.For _ _ _ _ _) _) _ _ _); k_dflt (refine' For_turns ?kF ?_; (case kF => k_asm); k_whole))); k_steps)
      refine kept_of ?_
      rename (Fr _ _ _ _) => F12
      rename (News _ _ _ _) => N12
      have hbd := brK_bd (keysTo keys q ls) (cmpF q q keys) (its.length + 1) (lo := 0) (hi := its.length) (Int.le_refl _) (Int.natCast_nonneg _)
      refine' kl_insert (n := n) F12 N12 ?hf (kl_ins_at its hbd.1 _) ?U ?z ?_
      case hf => exact fits_small hbd (Nat.le_trans hits5 (by decide))
      case U => k_upd
      case z => rw [sizeLine_eq]; exact Nat.le_trans hits5 (by decide)
      intro h13 F13 N13
      k_steps
      all_goals repeat ((first | (unfold Kept; (with_reducible show wpAny _ _ (call (Value.ref 21) [Value.str _ _, Value.str _ _]) _ _ _); k_dflt (refine' PCall.use (concat_spec _ _ _ _ ?hx ?hy) ?k1 ?k2 ?kN ?k3 ?k4 ?k5 ?kd ?ku trivial ?_); (case hx => first | ((try simp only [Str.length_append]); omega) | decide +kernel); (case hy => first | ((try simp only [Str.length_append]); omega) | decide +kernel); (case k1 => k_asm); (case k2 => k_asm); (case kN => k_asm); (case k3 => k_asm); (case k4 => k_asm); (case k5 => first | exact rfl | assumption); (case kd => first | exact un1 (by assumption) (by decide) | exact un2 (by assumption) (by decide) | ktr_room); (case ku => first | exact un1 (by assumption) (by decide) | exact un2 (by assumption) (by decide) | ktr_units); intro vQ hQ tQ kQ pQ FQ NQ; (obtain ⟨tQ, eQ⟩ := pQ); subst eQ; (try dsimp only); (try k_fold)) | (unfold Kept; (with_reducible show wpAny _ _ (exec (Stmt.For _ _ _ _ _) _) _ _ _); k_dflt (refine' For_turns ?kF ?_; (case kF => k_asm); k_whole))); k_steps)
      refine kept_of ?_
      rename (Fr gW LW _ _) => F14
      rename (News gW LW _ _) => N14
      refine ⟨_, _, _, _, rfl, F14, tab_news N14, ?off, trivial, insV its (brK (keysTo keys q ls) (cmpF q q keys) (its.length + 1) 0 its.length) (.ref Tr), lay1 keys ls q, n + 1, _, rfl, .inr ⟨_, _, _, _, ?ci, rfl, by assumption, by assumption⟩, ?pair, by rw [← hfold]; rfl, ?len, rfl, rfl, rfl, rfl, trivial⟩
      case ci => refine ltN ?_; omega
      case off =>
        intro p hp q hq
        rw [List.mem_singleton.mp hq]
        simp only [List.mem_cons, List.not_mem_nil, or_false] at hp
        rcases hp with rfl | rfl | rfl | rfl <;> k_ne
      case pair =>
        unfold lay1
        rw [hlen6]
        exact paired_ins hits _ hv
      case len =>
        rw [List.length_cons] at hlen
        unfold lay1
        rw [insV_len, Nat.add_right_comm]
        exact hlen
    · k_lt2 hci
      k_steps
      all_goals repeat ((first | (unfold Kept; (with_reducible show wpAny _ _ (call (Value.ref 21) [Value.str _ _, Value.str _ _]) _ _ _); k_dflt (refine' PCall.use (concat_spec _ _ _ _ ?hx ?hy) ?k1 ?k2 ?kN ?k3 ?k4 ?k5 ?kd ?ku trivial ?_); (case hx => first | ((try simp only [Str.length_append]); omega) | decide +kernel); (case hy => first | ((try simp only [Str.length_append]); omega) | decide +kernel); (case k1 => k_asm); (case k2 => k_asm); (case kN => k_asm); (case k3 => k_asm); (case k4 => k_asm); (case k5 => first | exact rfl | assumption); (case kd => first | exact un1 (by assumption) (by decide) | exact un2 (by assumption) (by decide) | ktr_room); (case ku => first | exact un1 (by assumption) (by decide) | exact un2 (by assumption) (by decide) | ktr_units); intro vQ hQ tQ kQ pQ FQ NQ; (obtain ⟨tQ, eQ⟩ := pQ); subst eQ; (try dsimp only); (try k_fold)) | (unfold Kept; (with_reducible show wpAny _ _ (exec (Stmt.For _ _ _ _ _) _) _ _ _); k_dflt (refine' For_turns ?kF ?_; (case kF => k_asm); k_whole))); k_steps)
      refine kept_of ?_
      (refine wpAny_call ?_; refine' code_defC ?k1 ?k2 ?k3 ?k4 ?k5 ?kA ?kF ?kK ?k6 ?k7 ?k8 ?k9 ?kB ?kD ?_ ?c2 ?c3 ?c4; (case kA => exact rfl); (case kF => exact rfl); (case kK => first | exact rfl | assumption); (case k1 => k_asm); (case k2 => k_asm); (case k3 => k_asm); (case k4 => k_asm); (case k5 => k_asm); (case k6 => k_is); (case k7 => k_is); (case k8 => first | exact Nat.lt_of_le_of_lt (Nat.le_add_right _ _) (by assumption) | exact un0 (by assumption) (by decide) | exact un1 (by assumption) (by decide) | ktr_room); (case k9 => first | exact BindsTo.of_eq rfl | exact binds_K (by k_in) rfl (by k_is) rfl rfl rfl); (case kB => exact rfl); (case kD => decide +kernel); (case c2 => exact rfl); (case c3 => exact rfl); (case c4 => exact rfl); k_whole; intro g' L' h' tk' cells' FG' F' N' Y' B' X' T' l1; (try k_lt l1); k_cells Y'; (try simp only [List.cons_append, List.nil_append] at N'); (try dsimp only); refine shutE ?_; intro P' E' hE' hP'; (try k_fold))
      rename (Fr gW LW _ _) => FG1
      have hc2g := hc2.keeps FG1.keep
      k_steps
      all_goals repeat ((first | (unfold Kept; (with_reducible show wpAny _ _ (call (Value.ref 21) [Value.str _ _, Value.str _ _]) _ _ _); k_dflt (refine' PCall.use (concat_spec _ _ _ _ ?hx ?hy) ?k1 ?k2 ?kN ?k3 ?k4 ?k5 ?kd ?ku trivial ?_); (case hx => first | ((try simp only [Str.length_append]); omega) | decide +kernel); (case hy => first | ((try simp only [Str.length_append]); omega) | decide +kernel); (case k1 => k_asm); (case k2 => k_asm); (case kN => k_asm); (case k3 => k_asm); (case k4 => k_asm); (case k5 => first | exact rfl | assumption); (case kd => first | exact un1 (by assumption) (by decide) | exact un2 (by assumption) (by decide) | ktr_room); (case ku => first | exact un1 (by assumption) (by decide) | exact un2 (by assumption) (by decide) | ktr_units); intro vQ hQ tQ kQ pQ FQ NQ; (obtain ⟨tQ, eQ⟩ := pQ); subst eQ; (try dsimp only); (try k_fold)) | (unfold Kept; (with_reducible show wpAny _ _ (exec (Stmt.For _ _ _ _ _) _) _ _ _); k_dflt (refine' For_turns ?kF ?_; (case kF => k_asm); k_whole))); k_steps)
      refine kept_of ?_
      (refine wpAny_call ?_; refine' code_def ?k1 ?k2 ?k3 ?k4 ?k5 ?kA ?kF ?kK ?k6 ?k7 ?k8 ?k9 ?kB ?_ ?c2 ?c3 ?c4 ?c5; (case kA => exact rfl); (case kF => exact rfl); (case kK => first | exact rfl | assumption); (case k1 => k_asm); (case k2 => k_asm); (case k3 => k_asm); (case k4 => k_asm); (case k5 => k_asm); (case k6 => k_is); (case k7 => k_is); (case k8 => first | exact Nat.lt_of_le_of_lt (Nat.le_add_right _ _) (by assumption) | exact un0 (by assumption) (by decide) | exact un1 (by assumption) (by decide) | ktr_room); (case k9 => first | exact binds_K (by k_in) rfl (by k_is) rfl rfl rfl | exact BindsTo.of_eq rfl); (case c5 => decide); (case kB => exact locs rfl); (case c2 => exact rfl); (case c3 => exact rfl); (case c4 => exact rfl); k_whole; intro g' L' h' FG' F' N' B' X' T'; (try dsimp only); refine shutE ?_; intro P' E' hE' hP'; (try k_fold))
      rename (Fr _ _ _ (bindL _ _ _)) => FG2
      k_steps
      all_goals repeat ((first | (unfold Kept; (with_reducible show wpAny _ _ (call (Value.ref 21) [Value.str _ _, Value.str _ _]) _ _ _); k_dflt (refine' PCall.use (concat_spec _ _ _ _ ?hx ?hy) ?k1 ?k2 ?kN ?k3 ?k4 ?k5 ?kd ?ku trivial ?_); (case hx => first | ((try simp only [Str.length_append]); omega) | decide +kernel); (case hy => first | ((try simp only [Str.length_append]); omega) | decide +kernel); (case k1 => k_asm); (case k2 => k_asm); (case kN => k_asm); (case k3 => k_asm); (case k4 => k_asm); (case k5 => first | exact rfl | assumption); (case kd => first | exact un1 (by assumption) (by decide) | exact un2 (by assumption) (by decide) | ktr_room); (case ku => first | exact un1 (by assumption) (by decide) | exact un2 (by assumption) (by decide) | ktr_units); intro vQ hQ tQ kQ pQ FQ NQ; (obtain ⟨tQ, eQ⟩ := pQ); subst eQ; (try dsimp only); (try k_fold)) | (unfold Kept; (with_reducible show wpAny _ _ (exec (Stmt.For _ _ _ _ _) _) _ _ _); k_dflt (refine' For_turns ?kF ?_; (case kF => k_asm); k_whole))); k_steps)
      refine kept_of ?_
      rename (Fr _ _ _ _) => F6
      rename (News _ _ _ _) => N6
      have up6 : ∀ b o, gW.get? b = some o → Heap.get? _ b = some o := fun b o e => F6.keep b o (FG2.keep b o (FG1.keep b o e))
      obtain ⟨f, parts, qual, hparts, hlam, hcall⟩ : (Ex3 fun f parts qual => Al3 (lamParts w 107 = some parts) (LamAt _ f qual parts Tr tc) (Value.ref f = Value.ref _)) := ⟨_, (_, _, _), _, (by unfold lamParts; rw [show (Mine.hd.heap_39 w.params).lookup 107 = some ⟨_, _, .func (fnOf _ _ _ _ _ _ _ _ _ _ _ _), _⟩ from by k_is]), ⟨_, _, _, _, _, _, _, _, (N6 _ (.head _)).1, codeRec_news N6 (by k_mem) hoc hvs, (N6 _ (.tail _ (.tail _ (.head _)))).1, by assumption, (N6 _ (.tail _ (.head _))).1, by assumption⟩, rfl⟩
      have hcall := Value.ref.inj hcall
      subst hcall
      have hit6 := paired_mono (fun _ _ y => RowS.up y up6) hits
      have hK6 : KeyP w f qual parts Tr tc keys q its ls _ := ⟨hlam, hcomp.up up6, hv.up up6, hit6⟩
      refine PCallK.use (lam_spec 107 f (.inl rfl) qual parts hparts Tr Tr tc keys q q hcol) (by assumption) F6 N6 (by assumption) (by assumption) (by first | exact rfl | assumption) (by first | exact un1 (by assumption) (by decide) | exact un2 (by assumption) (by decide) | exact un3 (by assumption) (by decide) | exact un0 (by assumption) (by decide) | ktr_room) (by first | exact un1 (by assumption) (by decide) | exact un2 (by assumption) (by decide) | exact un3 (by assumption) (by decide) | exact un0 (by assumption) (by decide) | ktr_units) ⟨hK6.1, hK6.2.1, hK6.2.2.1, hK6.2.2.1⟩ fun v9 h9 t9 k9 p9 F9 N9 => ?_
      obtain ⟨tx, rfl⟩ := p9
      have hK9 := hK6.up _ _ k9
      try dsimp only
      k_steps
      all_goals repeat ((first | (unfold Kept; (with_reducible show wpAny _ _ (call (Value.ref 21) [Value.str _ _, Value.str _ _]) _ _ _); k_dflt (refine' PCall.use (concat_spec _ _ _ _ ?hx ?hy) ?k1 ?k2 ?kN ?k3 ?k4 ?k5 ?kd ?ku trivial ?_); (case hx => first | ((try simp only [Str.length_append]); omega) | decide +kernel); (case hy => first | ((try simp only [Str.length_append]); omega) | decide +kernel); (case k1 => k_asm); (case k2 => k_asm); (case kN => k_asm); (case k3 => k_asm); (case k4 => k_asm); (case k5 => first | exact rfl | assumption); (case kd => first | exact un1 (by assumption) (by decide) | exact un2 (by assumption) (by decide) | ktr_room); (case ku => first | exact un1 (by assumption) (by decide) | exact un2 (by assumption) (by decide) | ktr_units); intro vQ hQ tQ kQ pQ FQ NQ; (obtain ⟨tQ, eQ⟩ := pQ); subst eQ; (try dsimp only); (try k_fold)) | (unfold Kept; (with_reducible show wpAny _ _ (exec (Stmt.For _ _ _ _ _) _) _ _ _); k_dflt (refine' For_turns ?kF ?_; (case kF => k_asm); k_whole))); k_steps)
      refine kept_of ?_
      rename (Fr _ _ _ _) => F10
      rename (News _ _ _ _) => N10
      have hlen6 := hits.length
      have hits5 : its.length ≤ 5 := by rw [hlen6, ← hlen]; exact Nat.le_add_right _ _
      refine PCallK.use (bisr_spec l f its (keysTo keys q ls) (cmpF q q keys) tx _ (KeyP w f qual parts Tr tc keys q its ls) KeyP.up KeyP.fn (Nat.le_trans hits5 (by decide)) (key_ok 107 f (.inl rfl) qual parts hparts Tr tc keys q its ls hcol hits)) (by assumption) F10 N10 (by assumption) (by assumption) (by first | exact rfl | assumption) (by first | exact un1 (by assumption) (by decide) | exact un2 (by assumption) (by decide) | exact un3 (by assumption) (by decide) | exact un0 (by assumption) (by decide) | ktr_room) (by first | exact un1 (by assumption) (by decide) | exact un2 (by assumption) (by decide) | exact un3 (by assumption) (by decide) | exact un0 (by assumption) (by decide) | ktr_units) ⟨⟨_, (N10 (l, listOf (List.toArray its) n) (by k_mem)).1, rfl, n, rfl⟩, hK9⟩ fun v11 h11 t11 k11 p11 F11 N11 => ?_
      obtain ⟨tp, rfl⟩ := p11
      try dsimp only
      k_steps
      all_goals repeat ((first | (unfold Kept; (with_reducible show wpAny _ _ (call (Value.ref 21) [Value.str _ _, Value.str _ _]) _ _ _); k_dflt (refine' PCall.use (concat_spec _ _ _ _ ?hx ?hy) ?k1 ?k2 ?kN ?k3 ?k4 ?k5 ?kd ?ku trivial ?_); (case hx => first | ((try simp only [Str.length_append]); omega) | decide +kernel); (case hy => first | ((try simp only [Str.length_append]); omega) | decide +kernel); (case k1 => k_asm); (case k2 => k_asm); (case kN => k_asm); (case k3 => k_asm); (case k4 => k_asm); (case k5 => first | exact rfl | assumption); (case kd => first | exact un1 (by assumption) (by decide) | exact un2 (by assumption) (by decide) | ktr_room); (case ku => first | exact un1 (by assumption) (by decide) | exact un2 (by assumption) (by decide) | ktr_units); intro vQ hQ tQ kQ pQ FQ NQ; (obtain ⟨tQ, eQ⟩ := pQ); subst eQ; (try dsimp only); (try k_fold)) | (unfold Kept; (with_reducible show wpAny _ _ (exec (Stmt.For _ _ _ _ _) _) _ _ _); k_dflt (refine' For_turns ?kF ?_; (case kF => k_asm); k_whole))); k_steps)
      refine kept_of ?_
      rename (Fr _ _ _ _) => F12
      rename (News _ _ _ _) => N12
      have hbd := brK_bd (keysTo keys q ls) (cmpF q q keys) (its.length + 1) (lo := 0) (hi := its.length) (Int.le_refl _) (Int.natCast_nonneg _)
      refine' kl_insert (n := n) F12 N12 ?hf (kl_ins_at its hbd.1 _) ?U ?z ?_
      case hf => exact fits_small hbd (Nat.le_trans hits5 (by decide))
      case U => k_upd
      case z => rw [sizeLine_eq]; exact Nat.le_trans hits5 (by decide)
      intro h13 F13 N13
      k_steps
      all_goals repeat ((first | (unfold Kept; (with_reducible show wpAny _ _ (call (Value.ref 21) [Value.str _ _, Value.str _ _]) _ _ _); k_dflt (refine' PCall.use (concat_spec _ _ _ _ ?hx ?hy) ?k1 ?k2 ?kN ?k3 ?k4 ?k5 ?kd ?ku trivial ?_); (case hx => first | ((try simp only [Str.length_append]); omega) | decide +kernel); (case hy => first | ((try simp only [Str.length_append]); omega) | decide +kernel); (case k1 => k_asm); (case k2 => k_asm); (case kN => k_asm); (case k3 => k_asm); (case k4 => k_asm); (case k5 => first | exact rfl | assumption); (case kd => first | exact un1 (by assumption) (by decide) | exact un2 (by assumption) (by decide) | ktr_room); (case ku => first | exact un1 (by assumption) (by decide) | exact un2 (by assumption) (by decide) | ktr_units); intro vQ hQ tQ kQ pQ FQ NQ; (obtain ⟨tQ, eQ⟩ := pQ); subst eQ; (try dsimp only); (try k_fold)) | (unfold Kept; (with_reducible show wpAny _ _ (exec (Stmt.For _ _ _ _ _) _) _ _ _); k_dflt (refine' For_turns ?kF ?_; (case kF => k_asm); k_whole))); k_steps)
      refine kept_of ?_
      rename (Fr gW LW _ _) => F14
      rename (News gW LW _ _) => N14
      refine ⟨_, _, _, _, rfl, F14, tab_news2 N14, ?off, trivial, insV its (brK (keysTo keys q ls) (cmpF q q keys) (its.length + 1) 0 its.length) (.ref Tr), lay1 keys ls q, n + 1, _, rfl, .inr ⟨_, _, _, _, hci, rfl, hoc, hvs⟩, ?pair, by rw [← hfold]; rfl, ?len, rfl, rfl, rfl, rfl, trivial⟩
      case off =>
        intro p hp q hq
        rw [List.mem_singleton.mp hq]
        simp only [List.mem_cons, List.not_mem_nil, or_false] at hp
        rcases hp with rfl | rfl | rfl | rfl <;> k_ne
      case pair =>
        unfold lay1
        rw [hlen6]
        exact paired_ins hits _ hv
      case len =>
        rw [List.length_cons] at hlen
        unfold lay1
        rw [insV_len, Nat.add_right_comm]
        exact hlen
  case done =>
    rintro m news ⟨its, ls, n, led, rfl, htab, hits, hfold, hlen, hm⟩ h tk F₁ N₁
    have F₁ := fr_over F₁ _ hm
    dsimp only [over] at F₁
    obtain ⟨ps2, hps2⟩ : ∃ ps2, (102, tabObj ps2) ∈ led := by
      rcases htab with rfl | ⟨c', oc, vs, t, _, rfl, _⟩
      · exact ⟨_, List.mem_cons_self ..⟩
      · exact ⟨_, List.mem_cons_self ..⟩
    have N₂ : News gW LW h [(l, listOf (List.toArray its) n), (102, tabObj ps2), (109, tabObj #[])] := fun p hp => N₁ p (by
      simp only [List.mem_cons, List.not_mem_nil, or_false] at hp ⊢
      rcases hp with h | h | h
      · simp [h]
      · rw [h]; exact .inr (.inr hps2)
      · simp [h])
    clear N₁ N1 htab F1
    obtain ⟨hl1, hl2⟩ := hll
    k_lt2 hl1
    k_lt2 hl2
    have hfold : ls = rows.foldl (lay1 keys) [] := hfold
    subst hfold
    dsimp only
    k_steps
    all_goals repeat ((first | (unfold Kept; (with_reducible show wpAny _ _ (call (Value.ref 21) [Value.str _ _, Value.str _ _]) _ _ _); k_dflt (refine' PCall.use (concat_spec _ _ _ _ ?hx ?hy) ?k1 ?k2 ?kN ?k3 ?k4 ?k5 ?kd ?ku trivial ?_); (case hx => first | ((try simp only [Str.length_append]); omega) | decide +kernel); (case hy => first | ((try simp only [Str.length_append]); omega) | decide +kernel); (case k1 => k_asm); (case k2 => k_asm); (case kN => k_asm); (case k3 => k_asm); (case k4 => k_asm); (case k5 => first | exact rfl | assumption); (case kd => first | exact un1 (by assumption) (by decide) | exact un2 (by assumption) (by decide) | ktr_room); (case ku => first | exact un1 (by assumption) (by decide) | exact un2 (by assumption) (by decide) | ktr_units); intro vQ hQ tQ kQ pQ FQ NQ; (obtain ⟨tQ, eQ⟩ := pQ); subst eQ; (try dsimp only); (try k_fold)) | (unfold Kept; (with_reducible show wpAny _ _ (exec (Stmt.For _ _ _ _ _) _) _ _ _); k_dflt (refine' For_turns ?kF ?_; (case kF => k_asm); k_whole))); k_steps)
    refine iter_listBase rfl F₁ N₂ hrl fun I2 hI2 => ?_
    k_lt hI2
    refine itemsRest_ind (RowS gW) (fun rem m news => Kept ((Ex3 fun x led tx => Al5 (news = (l, listOf (List.toArray its) n) :: (102, tabObj ps2) :: led) (Tab109 I2 led) (rem.foldl (fun x row => x ++ Txt.item (Str.ofString "abcde") (place1 keys (rows.foldl (lay1 keys) []) row)) x = wordS keys rows) (x.length + rem.length ≤ 5) (((∀ row ∈ rem, row ∈ rows)) ∧ (AllAt m [(Str.ofString "laid", .ref l), (Str.ofString "walk", .ref tc), (Str.ofString "rows", .ref rl), (Str.ofString "word", .str x tx)]))))) ?step2 ?done2 hrvs _ _
      ⟨Str.ofString "", [(109, tabObj #[])], tw, rfl, .inl rfl, rfl, by rw [hn]; decide, fun _ h => h, rfl, rfl, rfl, rfl, trivial⟩
    case step2 =>
      rintro v q rest m news hv ⟨x, led, tx, rfl, htab, hfold, hlen2, hin, hm⟩ h tk F₁
      refine AllObj.cons fun o ho => AllObj.nil fun N₁ P1 hP1 => ?_
      have F₁ := fr_over F₁ _ hm
      dsimp only [over] at F₁
      dsimp only at ho
      dsimp only [List.cons_append, List.nil_append] at N₁
      clear N₂
      obtain ⟨Tr, t1, t2, t3, t4, rfl, hTr⟩ := id hv
      have hxl : x.length ≤ 5 := by omega
      have hpq := hpl q (hin q (List.mem_cons_self ..))
      rcases htab with rfl | ⟨c', oc, vs, t, hci, rfl, hoc, hvs⟩
      · k_steps
        all_goals repeat ((first | (unfold Kept; (with_reducible show wpAny _ _ (call (Value.ref 21) [Value.str _ _, Value.str _ _]) _ _ _); k_dflt (refine' PCall.use (concat_spec _ _ _ _ ?hx ?hy) ?k1 ?k2 ?kN ?k3 ?k4 ?k5 ?kd ?ku trivial ?_); (case hx => first | ((try simp only [Str.length_append]); omega) | decide +kernel); (case hy => first | ((try simp only [Str.length_append]); omega) | decide +kernel); (case k1 => k_asm); (case k2 => k_asm); (case kN => k_asm); (case k3 => k_asm); (case k4 => k_asm); (case k5 => first | exact rfl | assumption); (case kd => first | exact un1 (by assumption) (by decide) | exact un2 (by assumption) (by decide) | ktr_room); (case ku => first | exact un1 (by assumption) (by decide) | exact un2 (by assumption) (by decide) | ktr_units); intro vQ hQ tQ kQ pQ FQ NQ; (obtain ⟨tQ, eQ⟩ := pQ); subst eQ; (try dsimp only); (try k_fold)) | (unfold Kept; (with_reducible show wpAny _ _ (exec (Stmt.For _ _ _ _ _) _) _ _ _); k_dflt (refine' For_turns ?kF ?_; (case kF => k_asm); k_whole))); k_steps)
        refine kept_of ?_
        (refine wpAny_call ?_; refine' code_defC ?k1 ?k2 ?k3 ?k4 ?k5 ?kA ?kF ?kK ?k6 ?k7 ?k8 ?k9 ?kB ?kD ?_ ?c2 ?c3 ?c4; (case kA => exact rfl); (case kF => exact rfl); (case kK => first | exact rfl | assumption); (case k1 => k_asm); (case k2 => k_asm); (case k3 => k_asm); (case k4 => k_asm); (case k5 => k_asm); (case k6 => k_is); (case k7 => k_is); (case k8 => first | exact Nat.lt_of_le_of_lt (Nat.le_add_right _ _) (by assumption) | exact un0 (by assumption) (by decide) | exact un1 (by assumption) (by decide) | ktr_room); (case k9 => first | exact BindsTo.of_eq rfl | exact binds_K (by k_in) rfl (by k_is) rfl rfl rfl); (case kB => exact rfl); (case kD => decide +kernel); (case c2 => exact rfl); (case c3 => exact rfl); (case c4 => exact rfl); k_whole; intro g' L' h' tk' cells' FG' F' N' Y' B' X' T' l1; (try k_lt l1); k_cells Y'; (try simp only [List.cons_append, List.nil_append] at N'); (try dsimp only); refine shutE ?_; intro P' E' hE' hP'; (try k_fold))
        rename (Fr gW LW _ _) => FG1
        have hc1g := hc1.keeps FG1.keep
        k_steps
        all_goals repeat ((first | (unfold Kept; (with_reducible show wpAny _ _ (call (Value.ref 21) [Value.str _ _, Value.str _ _]) _ _ _); k_dflt (refine' PCall.use (concat_spec _ _ _ _ ?hx ?hy) ?k1 ?k2 ?kN ?k3 ?k4 ?k5 ?kd ?ku trivial ?_); (case hx => first | ((try simp only [Str.length_append]); omega) | decide +kernel); (case hy => first | ((try simp only [Str.length_append]); omega) | decide +kernel); (case k1 => k_asm); (case k2 => k_asm); (case kN => k_asm); (case k3 => k_asm); (case k4 => k_asm); (case k5 => first | exact rfl | assumption); (case kd => first | exact un1 (by assumption) (by decide) | exact un2 (by assumption) (by decide) | ktr_room); (case ku => first | exact un1 (by assumption) (by decide) | exact un2 (by assumption) (by decide) | ktr_units); intro vQ hQ tQ kQ pQ FQ NQ; (obtain ⟨tQ, eQ⟩ := pQ); subst eQ; (try dsimp only); (try k_fold)) | (unfold Kept; (with_reducible show wpAny _ _ (exec (Stmt.For _ _ _ _ _) _) _ _ _); k_dflt (refine' For_turns ?kF ?_; (case kF => k_asm); k_whole))); k_steps)
        refine kept_of ?_
        rename (Fr _ _ _ _) => F6
        rename (News _ _ _ _) => N6
        have up6 : ∀ b o, gW.get? b = some o → Heap.get? _ b = some o := fun b o e => F6.keep b o (FG1.keep b o e)
        obtain ⟨f, parts, qual, hparts, hlam, hcall⟩ : (Ex3 fun f parts qual => Al3 (lamParts w 114 = some parts) (LamAt _ f qual parts Tr tc) (Value.ref f = Value.ref _)) := ⟨_, (_, _, _), _, (by unfold lamParts; rw [show (Mine.hd.heap_39 w.params).lookup 114 = some ⟨_, _, .func (fnOf _ _ _ _ _ _ _ _ _ _ _ _), _⟩ from by k_is]), ⟨_, _, _, _, _, _, _, _, (N6 _ (.head _)).1, codeRec_news N6 (by k_mem) (by assumption) (by assumption), (N6 _ (.tail _ (.tail _ (.tail _ (.head _))))).1, by assumption, (N6 _ (.tail _ (.tail _ (.head _)))).1, by assumption⟩, rfl⟩
        have hcall := Value.ref.inj hcall
        subst hcall
        have hit6 := paired_mono (fun _ _ y => RowS.up y up6) hits
        have hK6 : KeyP w f qual parts Tr tc keys q its (rows.foldl (lay1 keys) []) _ := ⟨hlam, hcomp.up up6, hv.up up6, hit6⟩
        have hlen6 := hits.length
        have hits5 : its.length ≤ 5 := by rw [hlen6, ← hlen]; exact Nat.le_add_right _ _
        refine PCallK.use (bisl_spec l f its (keysTo keys q (rows.foldl (lay1 keys) [])) 0 _ (KeyP w f qual parts Tr tc keys q its (rows.foldl (lay1 keys) [])) KeyP.up KeyP.fn (Nat.le_trans hits5 (by decide)) (key_ok 114 f (.inr rfl) qual parts hparts Tr tc keys q its _ hcol hits)) (by assumption) F6 N6 (by assumption) (by assumption) (by first | exact rfl | assumption) (by first | exact un1 (by assumption) (by decide) | exact un2 (by assumption) (by decide) | exact un3 (by assumption) (by decide) | exact un0 (by assumption) (by decide) | ktr_room) (by first | exact un1 (by assumption) (by decide) | exact un2 (by assumption) (by decide) | exact un3 (by assumption) (by decide) | exact un0 (by assumption) (by decide) | ktr_units) ⟨⟨_, (N6 (l, listOf (List.toArray its) n) (by k_mem)).1, rfl, n, rfl⟩, hK6⟩ fun v11 h11 t11 k11 p11 F11 N11 => ?_
        obtain ⟨tp, rfl⟩ := p11
        rw [hlen6]
        rw [show blK (keysTo keys q (rows.foldl (lay1 keys) [])) 0 ((rows.foldl (lay1 keys) []).length + 1) 0 (rows.foldl (lay1 keys) []).length = place1 keys (rows.foldl (lay1 keys) []) q from rfl]
        generalize hpv : place1 keys (rows.foldl (lay1 keys) []) q = pv at *
        try dsimp only
        have hil : (Txt.item (Str.ofString "abcde") pv).length ≤ 1 := Nat.le_refl 1
        k_steps
        all_goals repeat ((first | (unfold Kept; (with_reducible show wpAny _ _ (call (Value.ref 21) [Value.str _ _, Value.str _ _]) _ _ _); k_dflt (refine' PCall.use (concat_spec _ _ _ _ ?hx ?hy) ?k1 ?k2 ?kN ?k3 ?k4 ?k5 ?kd ?ku trivial ?_); (case hx => first | ((try simp only [Str.length_append]); omega) | decide +kernel); (case hy => first | ((try simp only [Str.length_append]); omega) | decide +kernel); (case k1 => k_asm); (case k2 => k_asm); (case kN => k_asm); (case k3 => k_asm); (case k4 => k_asm); (case k5 => first | exact rfl | assumption); (case kd => first | exact un1 (by assumption) (by decide) | exact un2 (by assumption) (by decide) | ktr_room); (case ku => first | exact un1 (by assumption) (by decide) | exact un2 (by assumption) (by decide) | ktr_units); intro vQ hQ tQ kQ pQ FQ NQ; (obtain ⟨tQ, eQ⟩ := pQ); subst eQ; (try dsimp only); (try k_fold)) | (unfold Kept; (with_reducible show wpAny _ _ (exec (Stmt.For _ _ _ _ _) _) _ _ _); k_dflt (refine' For_turns ?kF ?_; (case kF => k_asm); k_whole))); k_steps)
        refine kept_of ?_
        rename (Fr gW LW _ _) => F14
        rename (News gW LW _ _) => N14
        refine ⟨_, _, _, _, rfl, F14, tab_news N14, ?off, trivial, x ++ Txt.item (Str.ofString "abcde") pv, _, _, rfl, .inr ⟨_, _, _, _, ?ci, rfl, by assumption, by assumption⟩, by rw [← hpv]; exact hfold, ?len, fun r hr => hin r (List.mem_cons_of_mem _ hr), rfl, rfl, rfl, rfl, trivial⟩
        case ci => refine ltN ?_; omega
        case off =>
          intro p hp q hq
          rw [List.mem_singleton.mp hq]
          simp only [List.mem_cons, List.not_mem_nil, or_false] at hp
          rcases hp with rfl | rfl | rfl | rfl <;> k_ne
        case len =>
          rw [List.length_cons] at hlen2
          rw [Str.length_append]
          omega
      · k_lt2 hci
        k_steps
        all_goals repeat ((first | (unfold Kept; (with_reducible show wpAny _ _ (call (Value.ref 21) [Value.str _ _, Value.str _ _]) _ _ _); k_dflt (refine' PCall.use (concat_spec _ _ _ _ ?hx ?hy) ?k1 ?k2 ?kN ?k3 ?k4 ?k5 ?kd ?ku trivial ?_); (case hx => first | ((try simp only [Str.length_append]); omega) | decide +kernel); (case hy => first | ((try simp only [Str.length_append]); omega) | decide +kernel); (case k1 => k_asm); (case k2 => k_asm); (case kN => k_asm); (case k3 => k_asm); (case k4 => k_asm); (case k5 => first | exact rfl | assumption); (case kd => first | exact un1 (by assumption) (by decide) | exact un2 (by assumption) (by decide) | ktr_room); (case ku => first | exact un1 (by assumption) (by decide) | exact un2 (by assumption) (by decide) | ktr_units); intro vQ hQ tQ kQ pQ FQ NQ; (obtain ⟨tQ, eQ⟩ := pQ); subst eQ; (try dsimp only); (try k_fold)) | (unfold Kept; (with_reducible show wpAny _ _ (exec (Stmt.For _ _ _ _ _) _) _ _ _); k_dflt (refine' For_turns ?kF ?_; (case kF => k_asm); k_whole))); k_steps)
        refine kept_of ?_
        (refine wpAny_call ?_; refine' code_defC ?k1 ?k2 ?k3 ?k4 ?k5 ?kA ?kF ?kK ?k6 ?k7 ?k8 ?k9 ?kB ?kD ?_ ?c2 ?c3 ?c4; (case kA => exact rfl); (case kF => exact rfl); (case kK => first | exact rfl | assumption); (case k1 => k_asm); (case k2 => k_asm); (case k3 => k_asm); (case k4 => k_asm); (case k5 => k_asm); (case k6 => k_is); (case k7 => k_is); (case k8 => first | exact Nat.lt_of_le_of_lt (Nat.le_add_right _ _) (by assumption) | exact un0 (by assumption) (by decide) | exact un1 (by assumption) (by decide) | ktr_room); (case k9 => first | exact BindsTo.of_eq rfl | exact binds_K (by k_in) rfl (by k_is) rfl rfl rfl); (case kB => exact rfl); (case kD => decide +kernel); (case c2 => exact rfl); (case c3 => exact rfl); (case c4 => exact rfl); k_whole; intro g' L' h' tk' cells' FG' F' N' Y' B' X' T' l1; (try k_lt l1); k_cells Y'; (try simp only [List.cons_append, List.nil_append] at N'); (try dsimp only); refine shutE ?_; intro P' E' hE' hP'; (try k_fold))
        rename (Fr gW LW _ _) => FG1
        have hc1g := hc1.keeps FG1.keep
        k_steps
        all_goals repeat ((first | (unfold Kept; (with_reducible show wpAny _ _ (call (Value.ref 21) [Value.str _ _, Value.str _ _]) _ _ _); k_dflt (refine' PCall.use (concat_spec _ _ _ _ ?hx ?hy) ?k1 ?k2 ?kN ?k3 ?k4 ?k5 ?kd ?ku trivial ?_); (case hx => first | ((try simp only [Str.length_append]); omega) | decide +kernel); (case hy => first | ((try simp only [Str.length_append]); omega) | decide +kernel); (case k1 => k_asm); (case k2 => k_asm); (case kN => k_asm); (case k3 => k_asm); (case k4 => k_asm); (case k5 => first | exact rfl | assumption); (case kd => first | exact un1 (by assumption) (by decide) | exact un2 (by assumption) (by decide) | ktr_room); (case ku => first | exact un1 (by assumption) (by decide) | exact un2 (by assumption) (by decide) | ktr_units); intro vQ hQ tQ kQ pQ FQ NQ; (obtain ⟨tQ, eQ⟩ := pQ); subst eQ; (try dsimp only); (try k_fold)) | (unfold Kept; (with_reducible show wpAny _ _ (exec (Stmt.For _ _ _ _ _) _) _ _ _); k_dflt (refine' For_turns ?kF ?_; (case kF => k_asm); k_whole))); k_steps)
        refine kept_of ?_
        rename (Fr _ _ _ _) => F6
        rename (News _ _ _ _) => N6
        have up6 : ∀ b o, gW.get? b = some o → Heap.get? _ b = some o := fun b o e => F6.keep b o (FG1.keep b o e)
        obtain ⟨f, parts, qual, hparts, hlam, hcall⟩ : (Ex3 fun f parts qual => Al3 (lamParts w 114 = some parts) (LamAt _ f qual parts Tr tc) (Value.ref f = Value.ref _)) := ⟨_, (_, _, _), _, (by unfold lamParts; rw [show (Mine.hd.heap_39 w.params).lookup 114 = some ⟨_, _, .func (fnOf _ _ _ _ _ _ _ _ _ _ _ _), _⟩ from by k_is]), ⟨_, _, _, _, _, _, _, _, (N6 _ (.head _)).1, codeRec_news N6 (by k_mem) hoc hvs, (N6 _ (.tail _ (.tail _ (.head _)))).1, by assumption, (N6 _ (.tail _ (.head _))).1, by assumption⟩, rfl⟩
        have hcall := Value.ref.inj hcall
        subst hcall
        have hit6 := paired_mono (fun _ _ y => RowS.up y up6) hits
        have hK6 : KeyP w f qual parts Tr tc keys q its (rows.foldl (lay1 keys) []) _ := ⟨hlam, hcomp.up up6, hv.up up6, hit6⟩
        have hlen6 := hits.length
        have hits5 : its.length ≤ 5 := by rw [hlen6, ← hlen]; exact Nat.le_add_right _ _
        refine PCallK.use (bisl_spec l f its (keysTo keys q (rows.foldl (lay1 keys) [])) 0 _ (KeyP w f qual parts Tr tc keys q its (rows.foldl (lay1 keys) [])) KeyP.up KeyP.fn (Nat.le_trans hits5 (by decide)) (key_ok 114 f (.inr rfl) qual parts hparts Tr tc keys q its _ hcol hits)) (by assumption) F6 N6 (by assumption) (by assumption) (by first | exact rfl | assumption) (by first | exact un1 (by assumption) (by decide) | exact un2 (by assumption) (by decide) | exact un3 (by assumption) (by decide) | exact un0 (by assumption) (by decide) | ktr_room) (by first | exact un1 (by assumption) (by decide) | exact un2 (by assumption) (by decide) | exact un3 (by assumption) (by decide) | exact un0 (by assumption) (by decide) | ktr_units) ⟨⟨_, (N6 (l, listOf (List.toArray its) n) (by k_mem)).1, rfl, n, rfl⟩, hK6⟩ fun v11 h11 t11 k11 p11 F11 N11 => ?_
        obtain ⟨tp, rfl⟩ := p11
        rw [hlen6]
        rw [show blK (keysTo keys q (rows.foldl (lay1 keys) [])) 0 ((rows.foldl (lay1 keys) []).length + 1) 0 (rows.foldl (lay1 keys) []).length = place1 keys (rows.foldl (lay1 keys) []) q from rfl]
        generalize hpv : place1 keys (rows.foldl (lay1 keys) []) q = pv at *
        try dsimp only
        have hil : (Txt.item (Str.ofString "abcde") pv).length ≤ 1 := Nat.le_refl 1
        k_steps
        all_goals repeat ((first | (unfold Kept; (with_reducible show wpAny _ _ (call (Value.ref 21) [Value.str _ _, Value.str _ _]) _ _ _); k_dflt (refine' PCall.use (concat_spec _ _ _ _ ?hx ?hy) ?k1 ?k2 ?kN ?k3 ?k4 ?k5 ?kd ?ku trivial ?_); (case hx => first | ((try simp only [Str.length_append]); omega) | decide +kernel); (case hy => first | ((try simp only [Str.length_append]); omega) | decide +kernel); (case k1 => k_asm); (case k2 => k_asm); (case kN => k_asm); (case k3 => k_asm); (case k4 => k_asm); (case k5 => first | exact rfl | assumption); (case kd => first | exact un1 (by assumption) (by decide) | exact un2 (by assumption) (by decide) | ktr_room); (case ku => first | exact un1 (by assumption) (by decide) | exact un2 (by assumption) (by decide) | ktr_units); intro vQ hQ tQ kQ pQ FQ NQ; (obtain ⟨tQ, eQ⟩ := pQ); subst eQ; (try dsimp only); (try k_fold)) | (unfold Kept; (with_reducible show wpAny _ _ (exec (Stmt.For _ _ _ _ _) _) _ _ _); k_dflt (refine' For_turns ?kF ?_; (case kF => k_asm); k_whole))); k_steps)
        refine kept_of ?_
        rename (Fr gW LW _ _) => F14
        rename (News gW LW _ _) => N14
        refine ⟨_, _, _, _, rfl, F14, tab_news2 N14, ?off, trivial, x ++ Txt.item (Str.ofString "abcde") pv, _, _, rfl, .inr ⟨_, _, _, _, hci, rfl, hoc, hvs⟩, by rw [← hpv]; exact hfold, ?len, fun r hr => hin r (List.mem_cons_of_mem _ hr), rfl, rfl, rfl, rfl, trivial⟩
        case off =>
          intro p hp q hq
          rw [List.mem_singleton.mp hq]
          simp only [List.mem_cons, List.not_mem_nil, or_false] at hp
          rcases hp with rfl | rfl | rfl | rfl <;> k_ne
        case len =>
          rw [List.length_cons] at hlen2
          rw [Str.length_append]
          omega
    case done2 =>
      rintro m news ⟨x, led, tx, rfl, htab, hfold, hlen2, hin, hm⟩ h tk F₁ N₁
      have F₁ := fr_over F₁ _ hm
      dsimp only [over] at F₁
      dsimp only
      k_steps
      all_goals repeat ((first | (unfold Kept; (with_reducible show wpAny _ _ (call (Value.ref 21) [Value.str _ _, Value.str _ _]) _ _ _); k_dflt (refine' PCall.use (concat_spec _ _ _ _ ?hx ?hy) ?k1 ?k2 ?kN ?k3 ?k4 ?k5 ?kd ?ku trivial ?_); (case hx => first | ((try simp only [Str.length_append]); omega) | decide +kernel); (case hy => first | ((try simp only [Str.length_append]); omega) | decide +kernel); (case k1 => k_asm); (case k2 => k_asm); (case kN => k_asm); (case k3 => k_asm); (case k4 => k_asm); (case k5 => first | exact rfl | assumption); (case kd => first | exact un1 (by assumption) (by decide) | exact un2 (by assumption) (by decide) | ktr_room); (case ku => first | exact un1 (by assumption) (by decide) | exact un2 (by assumption) (by decide) | ktr_units); intro vQ hQ tQ kQ pQ FQ NQ; (obtain ⟨tQ, eQ⟩ := pQ); subst eQ; (try dsimp only); (try k_fold)) | (unfold Kept; (with_reducible show wpAny _ _ (exec (Stmt.For _ _ _ _ _) _) _ _ _); k_dflt (refine' For_turns ?kF ?_; (case kF => k_asm); k_whole))); k_steps)
      have hfold : x = wordS keys rows := hfold
      subst hfold
      rename (∀ b o, gW.get? b = some o → Heap.get? _ b = some o) => kk
      refine hret _ _ _ (fun b o h9 h2 e => kk b o (hsg b o (by
        simp only [List.map_cons, List.map_nil, List.mem_cons, List.not_mem_nil, or_false]
        rintro (rfl | rfl)
        · exact h9 rfl
        · exact h2 rfl) e)) ?g9 (GrownAt.of N₁ (by k_mem))
      case g9 =>
        rcases htab with rfl | ⟨c', oc, vs, t, _, rfl, _⟩
        · exact GrownAt.of N₁ (by k_mem)
        · exact GrownAt.of N₁ (by k_mem)
end
section
example : True := by
  k_with_none
  k_with "LeaveF" => (refine leaveF_ (by k_asm) ?_; intro kk; (try dsimp only))
  k_with "Shut" => (refine shut (by assumption) ?_; (try dsimp only))
  k_with "execs cons" => (refine shutX ?_; intro tX PX hPX)
  k_with "exec For Name Call cons nil" => (k_here; refine held ?_)
  k_with "exec For Tuple Call cons nil" => (k_here; refine held ?_)
  k_with "exec For Name Name cons nil" => (k_here; refine held ?_)
  k_with "exec For Tuple Name cons nil" => (k_here; refine held ?_)
  k_with "exec While" => (k_here; refine held ?_)
  trivial
noncomputable abbrev NW := List Nat
theorem len_succ {α : Type} {l : List α} {n : Nat} (h : l.length = n + 1) : (Ex2 fun a r => l = a :: r ∧ r.length = n) := by
  cases l with
  | nil => cases h
  | cons a r => exact ⟨a, r, rfl, Nat.succ.inj h⟩
theorem len5 {α : Type} {l : List α} (h : l.length = 5) : (Ex5 fun a b c d e => l = [a, b, c, d, e]) := by
  obtain ⟨a, l1, e1, h1⟩ := len_succ h
  obtain ⟨b, l2, e2, h2⟩ := len_succ h1
  obtain ⟨c, l3, e3, h3⟩ := len_succ h2
  obtain ⟨d, l4, e4, h4⟩ := len_succ h3
  obtain ⟨e, l5, e5, h5⟩ := len_succ h4
  rw [List.eq_nil_of_length_eq_zero h5] at e5
  exact ⟨a, b, c, d, e, by rw [e1, e2, e3, e4, e5]⟩
noncomputable def toS (w : NW) : Str := ⟨w.toArray⟩
noncomputable def idxs : List (List Nat) := [[1, 0, 2, 3, 4], [1, 2, 0, 3, 4], [1, 2, 3, 0, 4], [1, 2, 3, 4, 0], [2, 1, 0, 3, 4], [2, 3, 1, 0, 4], [2, 3, 4, 1, 0], [3, 1, 2, 0, 4], [3, 4, 1, 2, 0], [4, 1, 2, 3, 0], [2, 0, 1, 3, 4], [2, 3, 0, 1, 4], [2, 3, 4, 0, 1], [3, 2, 0, 1, 4], [3, 4, 2, 0, 1], [4, 2, 3, 0, 1], [3, 0, 1, 2, 4], [3, 4, 0, 1, 2], [4, 3, 0, 1, 2], [4, 0, 1, 2, 3], [0, 2, 1, 3, 4], [0, 2, 3, 1, 4], [0, 2, 3, 4, 1], [0, 3, 2, 1, 4], [0, 3, 4, 2, 1], [0, 4, 2, 3, 1], [0, 3, 1, 2, 4], [0, 3, 4, 1, 2], [0, 4, 3, 1, 2], [0, 4, 1, 2, 3], [0, 1, 3, 2, 4], [0, 1, 3, 4, 2], [0, 1, 4, 3, 2], [0, 1, 4, 2, 3], [0, 1, 2, 4, 3]]
noncomputable def stepsN (w : NW) : List NW := idxs.map fun is => is.map fun i => w.getD i 0
noncomputable def stepsOf (x : Str) : List Str := cutsList.map (exch1 x)
theorem steps_sym (a b c d e : Nat) : stepsOf (toS [a, b, c, d, e]) = (stepsN [a, b, c, d, e]).map toS := by kernel_rfl
noncomputable def insAll (x : Nat) : NW → List NW
  | [] => [[x]]
  | y :: r => (x :: y :: r) :: (insAll x r).map (y :: ·)
noncomputable def permsOf : NW → List NW
  | [] => [[]]
  | x :: r => (permsOf r).flatMap (insAll x)
noncomputable def perms : List NW := permsOf [97, 98, 99, 100, 101]
noncomputable def abN : NW := [97, 98, 99, 100, 101]
noncomputable def code (w : NW) : Nat := w.foldl (fun a c => 8 * a + (c - 97)) 0
noncomputable def posN (x : Nat) : NW → Nat
  | [] => 0
  | y :: r => if Nat.beq x y then 0 else posN x r + 1
noncomputable def nextN (ln : NW) (x : Nat) : Nat := ln.getD ((posN (if Nat.beq x 102 then 97 else x + 1) ln + 5) % 6) 0
noncomputable def walkN (ln : NW) : Nat → NW → Nat → NW
  | 0, seen, _ => seen
  | f + 1, seen, l => if seen.any (Nat.beq l) then seen else walkN ln f (l :: seen) (nextN ln l)
noncomputable def ringsFN (ln : NW) : NW → NW → Nat → Nat
  | [], _, r => r
  | l :: rest, seen, r => ringsFN ln rest (walkN ln 7 seen l) (if seen.any (Nat.beq l) then r else r + 1)
noncomputable def ringsN (w : NW) : Nat := ringsFN (w ++ [102]) (w ++ [102]) [] 0
noncomputable def ringsO (x : Str) : Option Int := ringsF (signs (x ++ Str.ofString "f")) inStr (signs (x ++ Str.ofString "f")) (Str.ofString "") 0
noncomputable def nodupN : List Nat → Bool
  | [] => true
  | x :: r => !(r.any (Nat.beq x)) && nodupN r
noncomputable def nearL : List Nat := [4252, 5148, 5316, 5344, 8732, 9796, 9992, 12932, 14416, 17048, 8284, 9740, 9985, 13324, 14465, 17601, 12372, 14346, 17930, 16467, 1116, 1228, 1249, 1676, 1809, 2201, 1620, 1802, 2250, 2131, 724, 738, 794, 787, 675]
noncomputable def bothN (v : NW) : Nat := if nearL.any (Nat.beq (code v)) then 2 else 1
noncomputable def fewN (w : NW) : Nat := if Nat.beq (code w) 668 then 0 else if (stepsN w).any (fun v => Nat.beq (code v) 668) then 1 else if (stepsN w).any (fun v => Nat.beq (bothN v) 2) then 2 else 3
noncomputable def okA (w : NW) : Bool := Nat.beq (ringsN w) (if Nat.beq (code w) 668 then 6 else 2 * bothN w)
noncomputable def okB (w : NW) : Bool := nodupN ((stepsN w).map code)
noncomputable def okC (w : NW) : Bool := Nat.beq (ringsN w + 2 * fewN w) 6
noncomputable def okD (w : NW) : Bool := ringsO (toS w) == some (ringsN w : Int)
theorem near_eq : (stepsN abN).map code = nearL := by decide +kernel
theorem ok_a : perms.all okA = true := by decide +kernel
theorem ok_b : perms.all okB = true := by decide +kernel
theorem ok_c : perms.all okC = true := by decide +kernel
theorem ok_d : perms.all okD = true := by decide +kernel
end
section
noncomputable def ones (xs : List Str) : List (Str × Int) := xs.map fun x => (x, 1)
theorem look_cons (p : Str × Int) (r : List (Str × Int)) (j : Str) : kdpLook (p :: r) j 0 = if p.1 = j then p.2 else kdpLook r j 0 := by
  unfold kdpLook
  rw [List.find?_cons]
  by_cases h : p.1 = j
  · rw [decide_eq_true h, if_pos h]; rfl
  · rw [decide_eq_false h, if_neg h]
theorem has_cons (p : Str × Int) (r : List (Str × Int)) (j : Str) : kdpHas (p :: r) j = (decide (p.1 = j) || kdpHas r j) := rfl
theorem look_none : ∀ {a : List (Str × Int)} {k : Str}, kdpHas a k = false → kdpLook a k 0 = 0
  | [], _, _ => rfl
  | p :: r, k, h => by
    rw [has_cons, Bool.or_eq_false_iff] at h
    rw [look_cons, if_neg (of_decide_eq_false h.1)]
    exact look_none h.2
theorem put_new {a : List (Str × Int)} {k : Str} (v : Int) (h : kdpHas a k = false) : kdpPut a k v = a ++ [(k, v)] := by
  unfold kdpPut
  rw [if_neg (by unfold kdpHas at h; rw [h]; exact Bool.false_ne_true)]
theorem put_old {a : List (Str × Int)} {k : Str} (v : Int) (h : kdpHas a k = true) : kdpPut a k v = a.map fun p => if decide (p.1 = k) then (p.1, v) else p := by
  unfold kdpPut
  rw [if_pos (by unfold kdpHas at h; exact h)]
theorem look_app (j : Str) (b : List (Str × Int)) : ∀ a : List (Str × Int), kdpLook (a ++ b) j 0 = if kdpHas a j = true then kdpLook a j 0 else kdpLook b j 0
  | [] => rfl
  | p :: r => by
    rw [List.cons_append, look_cons, look_cons, has_cons, look_app j b r]
    by_cases h : p.1 = j
    · simp [h]
    · simp [h]
theorem look_map (k j : Str) (v : Int) : ∀ a : List (Str × Int), kdpHas a k = true → kdpLook (a.map fun p => if decide (p.1 = k) then (p.1, v) else p) j 0 = if j = k then v else kdpLook a j 0
  | [], h => by cases h
  | p :: r, h => by
    rw [List.map_cons, look_cons, look_cons]
    by_cases hp : p.1 = k
    · rw [decide_eq_true hp]
      simp only [if_true]
      by_cases hj : j = k
      · rw [if_pos (hp.trans hj.symm), if_pos hj]
      · rw [if_neg fun e => hj (e.symm.trans hp), if_neg hj, if_neg fun e => hj (e.symm.trans hp)]
        by_cases hr : kdpHas r k = true
        · rw [look_map k j v r hr, if_neg hj]
        · have : ∀ p ∈ r, decide (p.1 = k) = false := by
            intro q hq
            have := Bool.eq_false_iff.mpr hr
            unfold kdpHas at this
            exact Bool.eq_false_iff.mpr (List.any_eq_false.mp this q hq)
          rw [List.map_congr_left (g := id) fun q hq => by rw [this q hq]; rfl, List.map_id]
    · rw [decide_eq_false hp]
      simp only [Bool.false_eq_true, if_false]
      have hr : kdpHas r k = true := by rw [has_cons, decide_eq_false hp, Bool.false_or] at h; exact h
      rw [look_map k j v r hr]
      by_cases hj : j = k
      · subst hj; rw [if_pos rfl, if_neg hp]; simp
      · rw [if_neg hj]; simp [hj]
theorem look_put (a : List (Str × Int)) (k j : Str) (v : Int) : kdpLook (kdpPut a k v) j 0 = if j = k then v else kdpLook a j 0 := by
  cases h : kdpHas a k with
  | true => rw [put_old v h]; exact look_map k j v a h
  | false =>
    rw [put_new v h, look_app, look_cons]
    by_cases hj : j = k
    · subst hj; rw [h]; simp
    · have : ¬ k = j := fun e => hj e.symm
      rw [if_neg hj, if_neg this]
      cases h2 : kdpHas a j with
      | true => simp
      | false => rw [look_none h2]; simp; rfl
theorem has_put (a : List (Str × Int)) (k j : Str) (v : Int) : kdpHas (kdpPut a k v) j = (decide (k = j) || kdpHas a j) := by
  cases h : kdpHas a k with
  | true =>
    rw [put_old v h]
    unfold kdpHas
    rw [List.any_map]
    have e : (a.any fun p => decide (p.1 = j)) = (a.any ((fun p : Str × Int => decide (p.1 = j)) ∘ fun p => if decide (p.1 = k) = true then (p.1, v) else p)) := by
      congr 1; funext p; show _ = decide ((if decide (p.1 = k) = true then (p.1, v) else p).1 = j); split <;> rfl
    rw [← e]
    by_cases hk : k = j
    · subst hk; unfold kdpHas at h; rw [h]; simp
    · simp [hk]
  | false =>
    rw [put_new v h]
    unfold kdpHas
    rw [List.any_append]
    simp [Bool.or_comm]
noncomputable def KeysNodup (a : List (Str × Int)) : Prop := (a.map (·.1)).Nodup
theorem has_mem {a : List (Str × Int)} {k : Str} : kdpHas a k = true ↔ k ∈ a.map (·.1) := by
  unfold kdpHas
  rw [List.any_eq_true, List.mem_map]
  constructor
  · rintro ⟨p, hp, h⟩; exact ⟨p, hp, of_decide_eq_true h⟩
  · rintro ⟨p, hp, h⟩; exact ⟨p, hp, decide_eq_true h⟩
theorem keys_put {a : List (Str × Int)} (h : KeysNodup a) (k : Str) (v : Int) : KeysNodup (kdpPut a k v) := by
  cases hk : kdpHas a k with
  | true =>
    rw [put_old v hk]
    unfold KeysNodup at *
    rw [List.map_map, List.map_congr_left (g := (·.1)) fun p _ => by show (if decide (p.1 = k) = true then (p.1, v) else p).1 = _; split <;> rfl]
    exact h
  | false =>
    rw [put_new v hk]
    unfold KeysNodup at *
    rw [List.map_append, List.map_cons, List.map_nil]
    refine List.nodup_append.mpr ⟨h, by simp, fun x hx y hy e => ?_⟩
    rw [List.mem_singleton.mp hy] at e
    rw [e] at hx
    rw [has_mem.mpr hx] at hk; cases hk
theorem sum_app (a b : List (Str × Int)) : sumD (a ++ b) = sumD a + sumD b := by unfold sumD; rw [List.map_append, List.sum_append]
theorem sum_old (k : Str) (v : Int) : ∀ {a : List (Str × Int)}, KeysNodup a → kdpHas a k = true → sumD (a.map fun p => if decide (p.1 = k) then (p.1, v) else p) = sumD a - kdpLook a k 0 + v
  | [], _, h => by cases h
  | p :: r, hn, h => by
    unfold KeysNodup at hn
    rw [List.map_cons, List.nodup_cons] at hn
    have c1 : ∀ (q : Str × Int) l, sumD (q :: l) = q.2 + sumD l := fun q l => by unfold sumD; rw [List.map_cons, List.sum_cons]
    rw [List.map_cons, c1, c1, look_cons]
    by_cases hp : p.1 = k
    · have : ∀ q ∈ r, decide (q.1 = k) = false := fun q hq => decide_eq_false fun e => hn.1 (by rw [hp, ← e]; exact List.mem_map_of_mem hq)
      rw [List.map_congr_left (g := id) fun q hq => by rw [this q hq]; rfl, List.map_id, decide_eq_true hp, if_pos hp]
      simp only [if_true]
      omega
    · have hr : kdpHas r k = true := by rw [has_cons, decide_eq_false hp, Bool.false_or] at h; exact h
      rw [sum_old k v hn.2 hr, decide_eq_false hp, if_neg hp]
      simp only [Bool.false_eq_true, if_false]
      omega
theorem sum_addOne {a : List (Str × Int)} (h : KeysNodup a) (p : Str × Int) : sumD (addOne a p) = sumD a + p.2 := by
  unfold addOne
  cases hk : kdpHas a p.1 with
  | true => simp only [if_true]; rw [put_old _ hk, sum_old _ _ h hk]; omega
  | false =>
    simp only [Bool.false_eq_true, if_false]
    rw [put_new _ hk, sum_app]
    unfold sumD; simp
theorem keys_addOne {a : List (Str × Int)} (h : KeysNodup a) (p : Str × Int) : KeysNodup (addOne a p) := by
  unfold addOne; split <;> exact keys_put h _ _
theorem look_addOne (a : List (Str × Int)) (p : Str × Int) (j : Str) : kdpLook (addOne a p) j 0 = kdpLook a j 0 + if p.1 = j then p.2 else 0 := by
  unfold addOne
  cases hk : kdpHas a p.1 with
  | true =>
    simp only [if_true]; rw [look_put]
    by_cases hj : j = p.1
    · subst hj; rw [if_pos rfl, if_pos rfl]
    · rw [if_neg hj, if_neg fun e => hj e.symm]; omega
  | false =>
    simp only [Bool.false_eq_true, if_false]
    rw [look_put]
    by_cases hj : j = p.1
    · subst hj; rw [if_pos rfl, if_pos rfl, look_none hk]; omega
    · rw [if_neg hj, if_neg fun e => hj e.symm]; omega
theorem has_addOne (a : List (Str × Int)) (p : Str × Int) (j : Str) : kdpHas (addOne a p) j = (decide (p.1 = j) || kdpHas a j) := by
  unfold addOne; split <;> exact has_put _ _ _ _
theorem addAll_facts : ∀ (l a : List (Str × Int)), KeysNodup a → sumD (addAll a l) = sumD a + sumD l ∧ (∀ j, kdpHas (addAll a l) j = (kdpHas l j || kdpHas a j)) ∧ (addAll a l).length ≤ a.length + l.length
  | [], a, _ => ⟨by unfold addAll sumD; simp, fun j => rfl, Nat.le_refl _⟩
  | p :: l, a, h => by
    obtain ⟨h1, h2, h3⟩ := addAll_facts l (addOne a p) (keys_addOne h p)
    refine ⟨?_, fun j => ?_, ?_⟩
    · show sumD (addAll (addOne a p) l) = _
      rw [h1, sum_addOne h]
      unfold sumD; rw [List.map_cons, List.sum_cons]; omega
    · show kdpHas (addAll (addOne a p) l) j = _
      rw [h2, has_addOne, has_cons]
      cases decide (p.1 = j) <;> cases kdpHas l j <;> rfl
    · have : (addOne a p).length ≤ a.length + 1 := by unfold addOne; split <;> exact kdpPut_len _ _ _
      show (addAll (addOne a p) l).length ≤ _
      rw [List.length_cons]; omega
theorem look_addAll : ∀ (l : List (Str × Int)) (a : List (Str × Int)) (j : Str), KeysNodup l → kdpLook (addAll a l) j 0 = kdpLook a j 0 + kdpLook l j 0
  | [], a, j, _ => by show kdpLook a j 0 = kdpLook a j 0 + 0; omega
  | p :: l, a, j, h => by
    unfold KeysNodup at h
    rw [List.map_cons, List.nodup_cons] at h
    show kdpLook (addAll (addOne a p) l) j 0 = _
    rw [look_addAll l _ j h.2, look_addOne, look_cons]
    by_cases hp : p.1 = j
    · have : kdpHas l j = false := Bool.eq_false_iff.mpr fun e => h.1 (hp ▸ has_mem.mp e)
      rw [if_pos hp, if_pos hp, look_none this]; omega
    · rw [if_neg hp, if_neg hp]; omega
theorem putAll_ones : ∀ (xs : List Str) (a : List (Str × Int)), (∀ x ∈ xs, kdpHas a x = false) → xs.Nodup → putAll a (ones xs) = a ++ ones xs
  | [], a, _, _ => (List.append_nil a).symm
  | x :: xs, a, h, hn => by
    rw [List.nodup_cons] at hn
    show putAll (kdpPut a x 1) (ones xs) = _
    rw [put_new 1 (h x (List.mem_cons_self ..)), putAll_ones xs _ (fun y hy => ?_) hn.2, List.append_assoc]
    · rfl
    · unfold kdpHas at h ⊢
      rw [List.any_append, h y (List.mem_cons_of_mem _ hy)]
      have : ¬ x = y := fun e => hn.1 (e ▸ hy)
      simp [this]
theorem keys_ones {xs : List Str} (h : xs.Nodup) : KeysNodup (ones xs) := by
  unfold KeysNodup ones; rw [List.map_map]; exact (List.map_id xs).symm ▸ h
theorem has_ones (xs : List Str) (j : Str) : kdpHas (ones xs) j = decide (j ∈ xs) := by
  rw [Bool.eq_iff_iff, has_mem, decide_eq_true_iff]; unfold ones; rw [List.map_map]; simp
theorem look_ones (xs : List Str) (j : Str) : kdpLook (ones xs) j 0 = if j ∈ xs then 1 else 0 := by
  induction xs with
  | nil => rfl
  | cons x xs ih =>
    show kdpLook ((x, 1) :: ones xs) j 0 = _
    rw [look_cons, ih]
    by_cases h : x = j
    · simp [h]
    · have : ¬ j = x := fun e => h e.symm
      simp [h, this]
theorem sum_ones (xs : List Str) : sumD (ones xs) = xs.length := by
  induction xs with
  | nil => rfl
  | cons x xs ih =>
    have : sumD (ones (x :: xs)) = 1 + sumD (ones xs) := by unfold sumD ones; rw [List.map_cons, List.map_cons, List.sum_cons]
    rw [this, ih, List.length_cons]; omega
end
section
noncomputable def abS (z : Int) : Str := if z = 0 then Str.ofString "a" else if z = 1 then Str.ofString "ab" else Str.ofString "b"
noncomputable def rowV (q : Row) : RowV := (q.1, abS q.2.1, q.2.2.1, q.2.2.2)
theorem ab_lt {x y : Int} (hx : x = 0 ∨ x = 1 ∨ x = 2) (hy : y = 0 ∨ y = 1 ∨ y = 2) : (abS x).cps.toList < (abS y).cps.toList ↔ x < y := by
  rcases hx with rfl | rfl | rfl <;> rcases hy with rfl | rfl | rfl <;> decide +kernel
theorem cell_get {q r : Row} (hq : q.2.1 = 0 ∨ q.2.1 = 1 ∨ q.2.1 = 2) (hr : r.2.1 = 0 ∨ r.2.1 = 1 ∨ r.2.1 = 2) (c : Int) : cellLt (rowV q) (rowV r) c ↔ rowGet q c < rowGet r c := by
  unfold cellLt rowGet rowV
  split
  · exact Iff.rfl
  · split
    · exact ab_lt hq hr
    · split <;> exact Iff.rfl
theorem ltL_cons (a b : Int) (x y : List Int) : ltL (a :: x) (b :: y) = if a == b then ltL x y else decide (a < b) := rfl
theorem mul_lt_pos {a b d : Int} (h : a < b) (hd : 0 < d) : a * d < b * d := Int.mul_lt_mul_of_pos_right h hd
theorem mul_lt_neg {a b d : Int} (h : a < b) (hd : d < 0) : b * d < a * d := Int.mul_lt_mul_of_neg_right h hd
theorem cmp_rank {q r : Row} (hq : q.2.1 = 0 ∨ q.2.1 = 1 ∨ q.2.1 = 2) (hr : r.2.1 = 0 ∨ r.2.1 = 1 ∨ r.2.1 = 2) : ∀ {keys : List (Int × Int)}, (∀ k ∈ keys, k.2 ≠ 0) →
    (cmpF (rowV q) (rowV r) keys < 0 ↔ ltL (rankOf keys q) (rankOf keys r) = true) ∧ (0 < cmpF (rowV q) (rowV r) keys ↔ ltL (rankOf keys r) (rankOf keys q) = true)
  | [], _ => ⟨⟨fun h => absurd (show (0 : Int) < 0 from h) (Int.lt_irrefl 0), fun h => by cases h⟩, ⟨fun h => absurd (show (0 : Int) < 0 from h) (Int.lt_irrefl 0), fun h => by cases h⟩⟩
  | k :: ks, h => by
    have hk := h k (List.mem_cons_self ..)
    have e1 : rankOf (k :: ks) q = (rowGet q k.1 * k.2) :: rankOf ks q := rfl
    have e2 : rankOf (k :: ks) r = (rowGet r k.1 * k.2) :: rankOf ks r := rfl
    rw [e1, e2, ltL_cons, ltL_cons]
    rcases Int.lt_trichotomy (rowGet q k.1) (rowGet r k.1) with c | c | c
    · rw [cmpF_lt ((cell_get hq hr k.1).mpr c)]
      rcases Int.lt_or_gt_of_ne hk with d | d
      · have := mul_lt_neg c d
        rw [if_neg (by simp; omega), if_neg (by simp; omega), decide_eq_true_iff, decide_eq_true_iff]
        omega
      · have := mul_lt_pos c d
        rw [if_neg (by simp; omega), if_neg (by simp; omega), decide_eq_true_iff, decide_eq_true_iff]
        omega
    · rw [cmpF_eq (fun x => absurd ((cell_get hq hr k.1).mp x) (by omega)) (fun x => absurd ((cell_get hr hq k.1).mp x) (by omega)), c, if_pos (by simp), if_pos (by simp)]
      exact cmp_rank hq hr fun k hk => h k (List.mem_cons_of_mem _ hk)
    · rw [cmpF_gt (fun x => absurd ((cell_get hq hr k.1).mp x) (by omega)) ((cell_get hr hq k.1).mpr c)]
      rcases Int.lt_or_gt_of_ne hk with d | d
      · have := mul_lt_neg c d
        rw [if_neg (by simp; omega), if_neg (by simp; omega), decide_eq_true_iff, decide_eq_true_iff]
        omega
      · have := mul_lt_pos c d
        rw [if_neg (by simp; omega), if_neg (by simp; omega), decide_eq_true_iff, decide_eq_true_iff]
        omega
theorem ltL_trans : ∀ {x y z : List Int}, ltL x y = true → ltL y z = true → x.length = y.length → y.length = z.length → ltL x z = true
  | [], [], _, h, _, _, _ => by cases h
  | a :: x, b :: y, c :: z, h, h', l, l' => by
    rw [ltL_cons] at *
    by_cases ab : a = b
    · subst ab
      rw [if_pos (by simp)] at h
      by_cases ac : a = c
      · subst ac; rw [if_pos (by simp)] at h' ⊢; exact ltL_trans h h' (by simpa using l) (by simpa using l')
      · rw [if_neg (by simpa using ac)] at h' ⊢; exact h'
    · rw [if_neg (by simpa using ab), decide_eq_true_iff] at h
      by_cases bc : b = c
      · subst bc; rw [if_neg (by simpa using ab), decide_eq_true_iff]; exact h
      · rw [if_neg (by simpa using bc), decide_eq_true_iff] at h'
        rw [if_neg (by simp; omega), decide_eq_true_iff]; omega
theorem ltL_tri : ∀ {x y : List Int}, x.length = y.length → ltL x y = true ∨ x = y ∨ ltL y x = true
  | [], [], _ => .inr (.inl rfl)
  | a :: x, b :: y, l => by
    rw [ltL_cons, ltL_cons]
    rcases Int.lt_trichotomy a b with c | c | c
    · left; rw [if_neg (by simp; omega), decide_eq_true_iff]; exact c
    · subst c
      rw [if_pos (by simp), if_pos (by simp)]
      rcases ltL_tri (x := x) (y := y) (by simpa using l) with h | h | h
      · exact .inl h
      · exact .inr (.inl (by rw [h]))
      · exact .inr (.inr h)
    · right; right; rw [if_neg (by simp; omega), decide_eq_true_iff]; exact c
theorem filter_lt {α : Type} {P Q : α → Bool} : ∀ {l : List α}, (∀ x ∈ l, P x = true → Q x = true) → (∃ x ∈ l, Q x = true ∧ P x = false) → (l.filter P).length < (l.filter Q).length
  | [], _, h => by obtain ⟨x, hx, _⟩ := h; cases hx
  | a :: l, h, he => by
    have le : ∀ {l : List α}, (∀ x ∈ l, P x = true → Q x = true) → (l.filter P).length ≤ (l.filter Q).length := by
      intro l h
      induction l with
      | nil => exact Nat.le_refl _
      | cons a l ih =>
        have := ih fun x hx => h x (List.mem_cons_of_mem _ hx)
        have ha := h a (List.mem_cons_self ..)
        rw [List.filter_cons, List.filter_cons]
        cases hp : P a with
        | true => rw [ha hp]; simp; exact this
        | false => cases Q a <;> simp <;> omega
    have h2 : ∀ x ∈ l, P x = true → Q x = true := fun x hx => h x (List.mem_cons_of_mem _ hx)
    rw [List.filter_cons, List.filter_cons]
    obtain ⟨x, hx, hq, hp⟩ := he
    rcases List.mem_cons.mp hx with rfl | hx
    · rw [hp, hq]; have := le h2; simp; omega
    · have := filter_lt h2 ⟨x, hx, hq, hp⟩
      cases hpa : P a with
      | true => rw [h a (List.mem_cons_self ..) hpa]; simp; exact this
      | false => cases Q a <;> simp <;> omega
section
variable {keys : List (Int × Int)} {F : List Row}
theorem rank_len (q r : Row) : (rankOf keys q).length = (rankOf keys r).length := by unfold rankOf; rw [List.length_map, List.length_map]
theorem less_lt {q r : Row} (hq : q ∈ F) (h : ltL (rankOf keys q) (rankOf keys r) = true) : lessN keys F q < lessN keys F r :=
  filter_lt (fun _ _ hx => ltL_trans hx h (rank_len _ _) (rank_len _ _)) ⟨q, hq, h, ltL_irrefl _⟩
theorem less_eq {q r : Row} (h : rankOf keys q = rankOf keys r) : lessN keys F q = lessN keys F r := by unfold lessN; rw [h]
theorem less_iff {q r : Row} (hq : q ∈ F) (hr : r ∈ F) : ltL (rankOf keys q) (rankOf keys r) = true ↔ lessN keys F q < lessN keys F r := by
  refine ⟨less_lt hq, fun h => ?_⟩
  rcases ltL_tri (rank_len (keys := keys) q r) with c | c | c
  · exact c
  · have := less_eq (F := F) c; omega
  · have := less_lt hr c; omega
end
theorem brK_congr {g g' : List Int} {x x' : Int} (h : ∀ i, x < g.getD i 0 ↔ x' < g'.getD i 0) : ∀ n lo hi, brK g x n lo hi = brK g' x' n lo hi
  | 0, _, _ => rfl
  | n + 1, lo, hi => by
    rw [brK_succ, brK_succ]
    by_cases c : lo < hi
    · rw [if_pos c, if_pos c]
      by_cases d : x < g.getD ((lo + hi).fdiv 2).toNat 0
      · rw [if_pos d, if_pos ((h _).mp d)]; exact brK_congr h n _ _
      · rw [if_neg d, if_neg fun e => d ((h _).mpr e)]; exact brK_congr h n _ _
    · rw [if_neg c, if_neg c]
theorem blK_congr {g g' : List Int} {x x' : Int} (h : ∀ i, g.getD i 0 < x ↔ g'.getD i 0 < x') : ∀ n lo hi, blK g x n lo hi = blK g' x' n lo hi
  | 0, _, _ => rfl
  | n + 1, lo, hi => by
    rw [blK_succ, blK_succ]
    by_cases c : lo < hi
    · rw [if_pos c, if_pos c]
      by_cases d : g.getD ((lo + hi).fdiv 2).toNat 0 < x
      · rw [if_pos d, if_pos ((h _).mp d)]; exact blK_congr h n _ _
      · rw [if_neg d, if_neg fun e => d ((h _).mpr e)]; exact blK_congr h n _ _
    · rw [if_neg c, if_neg c]
theorem getD_map {α : Type} (f : α → Int) (l : List α) (i : Nat) : (l.map f).getD i 0 = match l[i]? with | some x => f x | none => 0 := by
  rw [List.getD_eq_getElem?_getD, List.getElem?_map]
  cases l[i]? <;> rfl
noncomputable def layN (l : List Nat) (y : Nat) : List Nat := insV l (brK (l.map fun o : Nat => (o : Int) - y) 0 (l.length + 1) 0 l.length) y
noncomputable def placeN (l : List Nat) (y : Nat) : Int := blK (l.map fun o : Nat => (o : Int) - y) 0 (l.length + 1) 0 l.length
noncomputable def wordNS (ps : List Nat) : Str := ps.foldl (fun x p => x ++ Txt.item (Str.ofString "abcde") (placeN (ps.foldl layN []) p)) (Str.ofString "")
noncomputable def dueNS (ps : List Nat) : Str := Txt.join (Str.ofString "") (ps.map fun p => Txt.item (Str.ofString "abcde") (p : Nat))
noncomputable def layR (keys : List (Int × Int)) (l : List Row) (q : Row) : List Row := insV l (brK (keysTo keys (rowV q) (l.map rowV)) (cmpF (rowV q) (rowV q) keys) (l.length + 1) 0 l.length) q
theorem map_insV {α β : Type} (f : α → β) (l : List α) (k : Int) (y : α) : (insV l k y).map f = insV (l.map f) k (f y) := by
  unfold insV
  rw [List.map_append, List.map_cons, List.map_take, List.map_drop, List.length_map]
theorem mem_insV {α : Type} {l : List α} {k : Int} {x y : α} (h : x ∈ insV l k y) : x ∈ l ∨ x = y := by
  unfold insV at h
  rcases List.mem_append.mp h with h | h
  · exact .inl (List.mem_of_mem_take h)
  · rcases List.mem_cons.mp h with h | h
    · exact .inr h
    · exact .inl (List.mem_of_mem_drop h)
structure RowsOk (keys : List (Int × Int)) (F : List Row) : Prop where
  two : ∀ q ∈ F, q.2.1 = 0 ∨ q.2.1 = 1 ∨ q.2.1 = 2
  dir : ∀ k ∈ keys, k.2 ≠ 0
section
variable {keys : List (Int × Int)} {F : List Row}
theorem sign_at (ok : RowsOk keys F) {q r : Row} (hq : q ∈ F) (hr : r ∈ F) : (cmpF (rowV q) (rowV r) keys < 0 ↔ (lessN keys F q : Int) - (lessN keys F r : Int) < 0) ∧ (0 < cmpF (rowV q) (rowV r) keys ↔ 0 < (lessN keys F q : Int) - (lessN keys F r : Int)) := by
  obtain ⟨h1, h2⟩ := cmp_rank (ok.two q hq) (ok.two r hr) ok.dir
  rw [h1, h2, less_iff hq hr, less_iff hr hq]
  omega
theorem cmp_self (ok : RowsOk keys F) {q : Row} (hq : q ∈ F) : cmpF (rowV q) (rowV q) keys = 0 := by
  obtain ⟨h1, h2⟩ := sign_at ok hq hq
  omega
theorem keys_sign (ok : RowsOk keys F) {l : List Row} (hl : ∀ x ∈ l, x ∈ F) {q : Row} (hq : q ∈ F) (i : Nat) :
    (0 < (keysTo keys (rowV q) (l.map rowV)).getD i 0 ↔ 0 < ((l.map (lessN keys F)).map fun o : Nat => (o : Int) - (lessN keys F q : Nat)).getD i 0) ∧
    ((keysTo keys (rowV q) (l.map rowV)).getD i 0 < 0 ↔ ((l.map (lessN keys F)).map fun o : Nat => (o : Int) - (lessN keys F q : Nat)).getD i 0 < 0) := by
  unfold keysTo
  rw [List.map_map, List.map_map, getD_map, getD_map]
  cases e : l[i]? with
  | none => exact ⟨Iff.rfl, Iff.rfl⟩
  | some x =>
    obtain ⟨h1, h2⟩ := sign_at ok (hl x (List.mem_of_getElem? e)) hq
    exact ⟨h2, h1⟩
theorem lay_map (ok : RowsOk keys F) {l : List Row} (hl : ∀ x ∈ l, x ∈ F) {q : Row} (hq : q ∈ F) : (layR keys l q).map (lessN keys F) = layN (l.map (lessN keys F)) (lessN keys F q) := by
  unfold layR layN
  rw [map_insV, cmp_self ok hq, brK_congr (fun i => (keys_sign ok hl hq i).1), List.length_map]
theorem lay_mem {l : List Row} (hl : ∀ x ∈ l, x ∈ F) {q : Row} (hq : q ∈ F) : ∀ x ∈ layR keys l q, x ∈ F := fun x hx => by
  rcases mem_insV hx with h | h
  · exact hl x h
  · rw [h]; exact hq
theorem lays (ok : RowsOk keys F) : ∀ (r l : List Row), (∀ x ∈ r, x ∈ F) → (∀ x ∈ l, x ∈ F) →
    (r.map rowV).foldl (lay1 keys) (l.map rowV) = (r.foldl (layR keys) l).map rowV ∧ (r.foldl (layR keys) l).map (lessN keys F) = (r.map (lessN keys F)).foldl layN (l.map (lessN keys F)) ∧ ∀ x ∈ r.foldl (layR keys) l, x ∈ F
  | [], l, _, hl => ⟨rfl, rfl, hl⟩
  | q :: r, l, hr, hl => by
    have hq := hr q (List.mem_cons_self ..)
    obtain ⟨h1, h2, h3⟩ := lays ok r (layR keys l q) (fun x hx => hr x (List.mem_cons_of_mem _ hx)) (lay_mem hl hq)
    refine ⟨?_, ?_, h3⟩
    · rw [List.map_cons, List.foldl_cons, List.foldl_cons, ← h1]
      congr 1
      unfold lay1 layR
      rw [map_insV, List.length_map]
    · rw [List.foldl_cons, List.map_cons, List.foldl_cons, h2, lay_map ok hl hq]
theorem place_map (ok : RowsOk keys F) {l : List Row} (hl : ∀ x ∈ l, x ∈ F) {q : Row} (hq : q ∈ F) : place1 keys (l.map rowV) (rowV q) = placeN (l.map (lessN keys F)) (lessN keys F q) := by
  unfold place1 placeN
  rw [blK_congr (fun i => (keys_sign ok hl hq i).2), List.length_map, List.length_map]
theorem words (ok : RowsOk keys F) : wordS keys (F.map rowV) = wordNS (F.map (lessN keys F)) ∧ dueS keys F = dueNS (F.map (lessN keys F)) := by
  obtain ⟨h1, h2, h3⟩ := lays ok F [] (fun _ h => h) (fun _ h => by cases h)
  rw [List.map_nil] at h1 h2
  constructor
  · unfold wordS wordNS
    rw [h1, ← h2]
    have : ∀ (r : List Row) x, (∀ y ∈ r, y ∈ F) → (r.map rowV).foldl (fun x row => x ++ Txt.item (Str.ofString "abcde") (place1 keys ((F.foldl (layR keys) []).map rowV) row)) x =
        (r.map (lessN keys F)).foldl (fun x p => x ++ Txt.item (Str.ofString "abcde") (placeN ((F.foldl (layR keys) []).map (lessN keys F)) p)) x := by
      intro r
      induction r with
      | nil => intro x _; rfl
      | cons q r ih =>
        intro x hr
        rw [List.map_cons, List.map_cons, List.foldl_cons, List.foldl_cons, place_map ok h3 (hr q (List.mem_cons_self ..))]
        exact ih _ fun y hy => hr y (List.mem_cons_of_mem _ hy)
    exact this F _ fun _ h => h
  · unfold dueS dueNS
    rw [List.map_map]
    rfl
end
end
section
theorem any_congr {α : Type} {f g : α → Bool} : ∀ {l : List α}, (∀ x ∈ l, f x = g x) → l.any f = l.any g
  | [], _ => rfl
  | x :: r, h => by rw [List.any_cons, List.any_cons, h x (List.mem_cons_self ..), any_congr fun y hy => h y (List.mem_cons_of_mem _ hy)]
theorem mem_insAll (x : Nat) : ∀ (a b : NW), a ++ x :: b ∈ insAll x (a ++ b)
  | [], [] => List.mem_singleton.mpr rfl
  | [], y :: r => List.mem_cons_self ..
  | y :: a, b => by
    show y :: (a ++ x :: b) ∈ (x :: y :: (a ++ b)) :: (insAll x (a ++ b)).map (y :: ·)
    exact List.mem_cons_of_mem _ (List.mem_map_of_mem (mem_insAll x a b))
theorem mem_permsOf : ∀ {l w : NW}, w.Perm l → w ∈ permsOf l
  | [], w, h => by rw [h.eq_nil]; exact List.mem_singleton.mpr rfl
  | x :: r, w, h => by
    obtain ⟨a, b, rfl⟩ := List.append_of_mem (h.symm.subset (List.mem_cons_self ..) : x ∈ w)
    have h2 : (a ++ b).Perm r := ((List.perm_middle (a := x) (l₁ := a) (l₂ := b)).symm.trans h).cons_inv
    exact List.mem_flatMap.mpr ⟨a ++ b, mem_permsOf h2, mem_insAll x a b⟩
theorem mem_perms {w : NW} (h : w.Perm abN) : w ∈ perms := mem_permsOf h
theorem five {w : NW} (h : w.Perm abN) : (Ex5 fun a b c d e => w = [a, b, c, d, e]) := by
  exact len5 h.length_eq
theorem idxs_perm : idxs.all (fun is => is.isPerm [0, 1, 2, 3, 4]) = true := by decide +kernel
theorem steps_perm {w : NW} (h : w.Perm abN) {v : NW} (hv : v ∈ stepsN w) : v.Perm abN := by
  obtain ⟨is, hi, rfl⟩ := List.mem_map.mp hv
  have hp := List.isPerm_iff.mp (List.all_eq_true.mp idxs_perm is hi)
  obtain ⟨a, b, c, d, e, rfl⟩ := five h
  have h2 : (is.map fun i => [a, b, c, d, e].getD i 0).Perm ([0, 1, 2, 3, 4].map fun i => [a, b, c, d, e].getD i 0) := hp.map _
  exact h2.trans h
theorem letters {w : NW} (h : w.Perm abN) {x : Nat} (hx : x ∈ w) : 97 ≤ x ∧ x ≤ 101 := by
  have := h.subset hx
  simp only [abN, List.mem_cons, List.not_mem_nil, or_false] at this
  rcases this with rfl | rfl | rfl | rfl | rfl <;> decide
theorem dig8 {a b u v : Nat} (hu : u < 8) (hv : v < 8) (h : 8 * a + u = 8 * b + v) : a = b ∧ u = v := by
  have h1 := congrArg (· / 8) h
  have h2 := congrArg (· % 8) h
  simp only [Nat.mul_add_div (show 8 > 0 by decide), Nat.div_eq_of_lt hu, Nat.div_eq_of_lt hv, Nat.mul_add_mod, Nat.mod_eq_of_lt hu, Nat.mod_eq_of_lt hv, Nat.add_zero] at h1 h2
  exact ⟨h1, h2⟩
theorem fold_inj : ∀ {w v : NW} (a b : Nat), w.length = v.length → (∀ x ∈ w, 97 ≤ x ∧ x ≤ 101) → (∀ x ∈ v, 97 ≤ x ∧ x ≤ 101) → w.foldl (fun a c => 8 * a + (c - 97)) a = v.foldl (fun a c => 8 * a + (c - 97)) b → a = b ∧ w = v := by
  intro w
  induction w with
  | nil => intro v a b hl _ _ h; cases v with | nil => exact ⟨h, rfl⟩ | cons y v => cases hl
  | cons x w ih =>
    intro v a b hl hw hv h
    cases v with
    | nil => cases hl
    | cons y v =>
      obtain ⟨e, rfl⟩ := ih _ _ (Nat.succ.inj hl) (fun z hz => hw z (.tail _ hz)) (fun z hz => hv z (.tail _ hz)) h
      have e : 8 * a + (x - 97) = 8 * b + (y - 97) := e
      have h1 := hw x (.head _)
      have h2 := hv y (.head _)
      obtain ⟨rfl, e2⟩ := dig8 (Nat.lt_of_le_of_lt (Nat.sub_le_sub_right h1.2 97) (by decide)) (Nat.lt_of_le_of_lt (Nat.sub_le_sub_right h2.2 97) (by decide)) e
      have e3 : x = y := by rw [← Nat.sub_add_cancel h1.1, e2, Nat.sub_add_cancel h2.1]
      rw [e3]
      exact ⟨rfl, rfl⟩
theorem code_inj {w v : NW} (hw : w.Perm abN) (hv : v.Perm abN) (h : code w = code v) : w = v :=
  (fold_inj 0 0 (hw.length_eq.trans hv.length_eq.symm) (fun _ hx => letters hw hx) (fun _ hx => letters hv hx) h).2
theorem toS_inj {w v : NW} (h : toS w = toS v) : w = v := by
  have := congrArg Str.cps h
  simpa [toS] using this
theorem toS_code {w v : NW} (hw : w.Perm abN) (hv : v.Perm abN) : toS w = toS v ↔ Nat.beq (code w) (code v) = true := by
  constructor
  · intro h; rw [toS_inj h]; exact Nat.beq_refl _
  · intro h; rw [code_inj hw hv (Nat.eq_of_beq_eq_true h)]
theorem ab_perm : abN.Perm abN := .refl _
theorem ab_code : code abN = 668 := by decide
theorem ab_str : Str.ofString "abcde" = toS abN := by decide +kernel
theorem steps_toS {w : NW} (h : w.Perm abN) : stepsOf (toS w) = (stepsN w).map toS := by
  obtain ⟨a, b, c, d, e, rfl⟩ := five h
  exact steps_sym a b c d e
theorem nodupN_nodup : ∀ {l : List Nat}, nodupN l = true → l.Nodup
  | [], _ => .nil
  | x :: r, h => by
    unfold nodupN at h
    rw [Bool.and_eq_true, Bool.not_eq_true'] at h
    refine List.nodup_cons.mpr ⟨fun hm => ?_, nodupN_nodup h.2⟩
    have := List.any_eq_false.mp h.1 x hm
    exact this (Nat.beq_refl x)
theorem nodup_of_map {α β : Type} (f : α → β) : ∀ {l : List α}, (l.map f).Nodup → l.Nodup
  | [], _ => .nil
  | x :: r, h => by
    rw [List.map_cons, List.nodup_cons] at h
    exact List.nodup_cons.mpr ⟨fun hm => h.1 (List.mem_map_of_mem hm), nodup_of_map f h.2⟩
theorem steps_nodup {w : NW} (h : w.Perm abN) : ((stepsN w).map toS).Nodup := by
  have := nodup_of_map code (nodupN_nodup (List.all_eq_true.mp ok_b w (mem_perms h)))
  have inj : ∀ {l : List NW}, l.Nodup → (l.map toS).Nodup := by
    intro l hl
    induction l with
    | nil => exact .nil
    | cons x r ih =>
      rw [List.nodup_cons] at hl
      refine List.nodup_cons.mpr ⟨fun hm => ?_, ih hl.2⟩
      obtain ⟨y, hy, e⟩ := List.mem_map.mp hm
      exact hl.1 (toS_inj e ▸ hy)
  exact inj this
theorem near_mem {v : NW} (h : v.Perm abN) : nearL.any (Nat.beq (code v)) = decide (toS v ∈ (stepsN abN).map toS) := by
  rw [Bool.eq_iff_iff, decide_eq_true_iff, ← near_eq, List.any_eq_true]
  constructor
  · rintro ⟨c, hc, e⟩
    obtain ⟨u, hu, rfl⟩ := List.mem_map.mp hc
    rw [code_inj h (steps_perm ab_perm hu) (Nat.eq_of_beq_eq_true e)]
    exact List.mem_map_of_mem hu
  · intro hm
    obtain ⟨u, hu, e⟩ := List.mem_map.mp hm
    rw [← toS_inj e]
    exact ⟨code u, List.mem_map_of_mem hu, Nat.beq_refl _⟩
noncomputable def bothT (w : NW) : List (Str × Int) := addAll (ones (stepsOf (toS w))) (ones (stepsOf (Str.ofString "abcde")))
theorem both_look {w : NW} (h : w.Perm abN) {v : NW} (hv : v ∈ stepsN w) : kdpLook (bothT w) (toS v) 0 = (bothN v : Int) := by
  have hn := steps_nodup ab_perm
  unfold bothT
  rw [ab_str, steps_toS h, steps_toS ab_perm, look_addAll _ _ _ (keys_ones hn), look_ones, look_ones, if_pos (List.mem_map_of_mem hv)]
  unfold bothN
  rw [near_mem (steps_perm h hv)]
  by_cases hm : toS v ∈ (stepsN abN).map toS
  · simp [hm]
  · simp [hm]
theorem rings_at {v : NW} (h : v.Perm abN) : ringsO (toS v) = some (ringsN v : Int) := by
  have := List.all_eq_true.mp ok_d v (mem_perms h)
  exact eq_of_beq this
theorem rings_step {w : NW} (h : w.Perm abN) {v : NW} (hv : v ∈ stepsN w) : (ringsN v : Int) = if toS v = Str.ofString "abcde" then 6 else 2 * kdpLook (bothT w) (toS v) 0 := by
  have hp := steps_perm h hv
  have e := Nat.eq_of_beq_eq_true (List.all_eq_true.mp ok_a v (mem_perms hp))
  rw [both_look h hv, e]
  by_cases c : toS v = Str.ofString "abcde"
  · rw [if_pos c, if_pos (by rw [ab_str] at c; rw [← ab_code]; exact (toS_code hp ab_perm).mp c)]; rfl
  · rw [if_neg c, if_neg (fun e => c (by rw [ab_str]; exact (toS_code hp ab_perm).mpr (by rw [ab_code]; exact e)))]
    rw [Int.natCast_mul]; rfl
theorem fewest_at {w : NW} (h : w.Perm abN) : (ringsN w : Int) = 6 - 2 * fewestOf (toS w) (stepsOf (toS w)) (bothT w) := by
  have e := Nat.eq_of_beq_eq_true (List.all_eq_true.mp ok_c w (mem_perms h))
  have few : (fewN w : Int) = fewestOf (toS w) (stepsOf (toS w)) (bothT w) := by
    unfold fewestOf fewN
    rw [ab_str, ← ab_code]
    by_cases c : toS w = toS abN
    · rw [if_pos c, if_pos ((toS_code h ab_perm).mp c)]; rfl
    · rw [if_neg c, if_neg (fun e => c ((toS_code h ab_perm).mpr e))]
      have e1 : ((stepsOf (toS w)).any fun y => y == toS abN) = (stepsN w).any fun v => Nat.beq (code v) (code abN) := by
        rw [steps_toS h, List.any_map]
        refine any_congr fun v hv => ?_
        rw [Bool.eq_iff_iff]
        simp only [Function.comp]
        rw [beq_iff_eq]
        exact toS_code (steps_perm h hv) ab_perm
      have e2 : (((stepsOf (toS w)).map fun y => kdpLook (bothT w) y 0).any fun z => z == 2) = (stepsN w).any fun v => Nat.beq (bothN v) 2 := by
        rw [steps_toS h, List.map_map, List.any_map]
        refine any_congr fun v hv => ?_
        rw [Bool.eq_iff_iff]
        simp only [Function.comp]
        rw [both_look h hv, beq_iff_eq, Nat.beq_eq]
        omega
      rw [e1, e2]
      generalize ((stepsN w).any fun v => Nat.beq (code v) (code abN)) = b1
      generalize ((stepsN w).any fun v => Nat.beq (bothN v) 2) = b2
      cases b1 <;> cases b2 <;> rfl
  rw [← few]; omega
end
section
theorem nodup_by {α β γ : Type} {p : α → β} {g : α → γ} : ∀ {F : List α}, (∀ q ∈ F, ∀ r ∈ F, p q = p r → g q = g r) → (F.map g).Nodup → (F.map p).Nodup
  | [], _, _ => .nil
  | q :: F, h, hn => by
    rw [List.map_cons, List.nodup_cons] at hn ⊢
    refine ⟨fun hm => ?_, nodup_by (fun a ha b hb => h a (List.mem_cons_of_mem _ ha) b (List.mem_cons_of_mem _ hb)) hn.2⟩
    obtain ⟨r, hr, e⟩ := List.mem_map.mp hm
    exact hn.1 (by rw [h q (List.mem_cons_self ..) r (List.mem_cons_of_mem _ hr) e.symm]; exact List.mem_map_of_mem hr)
noncomputable def codes5 : List (List Nat) := permsOf [0, 1, 2, 3, 4]
theorem all5 : ∀ a < 5, ∀ b < 5, ∀ c < 5, ∀ d < 5, ∀ e < 5, (nodupN [a, b, c, d, e] && !codes5.any (fun q => q == [a, b, c, d, e])) = false := by decide +kernel
theorem nodup_nodupN : ∀ {l : List Nat}, l.Nodup → nodupN l = true
  | [], _ => rfl
  | x :: r, h => by
    rw [List.nodup_cons] at h
    unfold nodupN
    rw [Bool.and_eq_true, Bool.not_eq_true']
    refine ⟨List.any_eq_false.mpr fun y hy e => h.1 (by rw [Nat.eq_of_beq_eq_true e]; exact hy), nodup_nodupN h.2⟩
theorem mem_codes5 {ps : List Nat} (hl : ps.length = 5) (h5 : ∀ p ∈ ps, p < 5) (hn : ps.Nodup) : ps ∈ codes5 := by
  obtain ⟨a, b, c, d, e, rfl⟩ := len5 hl
  have h := all5 a (h5 _ (.head _)) b (h5 _ (.tail _ (.head _))) c (h5 _ (.tail _ (.tail _ (.head _)))) d (h5 _ (.tail _ (.tail _ (.tail _ (.head _))))) e (h5 _ (.tail _ (.tail _ (.tail _ (.tail _ (.head _))))))
  rw [nodup_nodupN hn, Bool.true_and, Bool.not_eq_false'] at h
  obtain ⟨q, hq, e⟩ := List.any_eq_true.mp h
  rw [← eq_of_beq e]; exact hq
noncomputable def okE (ps : List Nat) : Bool := wordNS ps == toS (ps.map (97 + ·)) && dueNS ps == toS (ps.map (97 + ·)) && (ps.map (97 + ·)).isPerm abN && ps.all fun p => let z := placeN (ps.foldl layN []) p; decide (0 ≤ z) && decide (z < 5)
theorem ok_e : codes5.all okE = true := by decide +kernel
section
variable {keys : List (Int × Int)} {F : List Row}
theorem codes_mem (hF : F.map (fun q => q.2.2.2) = [0, 1, 2, 3, 4]) (hk : ∃ s, s ≠ 0 ∧ ((3 : Int), s) ∈ keys) : F.map (lessN keys F) ∈ codes5 := by
  have hl : F.length = 5 := by have := congrArg List.length hF; rw [List.length_map] at this; exact this
  obtain ⟨s, hs, hm⟩ := hk
  refine mem_codes5 (by rw [List.length_map]; exact hl) (fun p hp => ?_) (nodup_by (g := fun q : Row => q.2.2.2) (fun q hq r hr e => ?_) (by rw [hF]; decide))
  · obtain ⟨q, hq, rfl⟩ := List.mem_map.mp hp
    rw [← hl]; exact lessN_lt hq
  · have hr' : rankOf keys q = rankOf keys r := by
      rcases ltL_tri (rank_len (keys := keys) q r) with c | c | c
      · have := less_lt hq c; omega
      · exact c
      · have := less_lt hr c; omega
    have := List.map_inj_left.mp hr' _ hm
    exact Int.eq_of_mul_eq_mul_right hs this
theorem word_due (ok : RowsOk keys F) (hF : F.map (fun q => q.2.2.2) = [0, 1, 2, 3, 4]) (hk : ∃ s, s ≠ 0 ∧ ((3 : Int), s) ∈ keys) :
    ∃ w : NW, w.Perm abN ∧ wordS keys (F.map rowV) = toS w ∧ dueS keys F = toS w ∧ ∀ row ∈ F.map rowV, 0 ≤ place1 keys ((F.map rowV).foldl (lay1 keys) []) row ∧ place1 keys ((F.map rowV).foldl (lay1 keys) []) row < 5 := by
  have h := List.all_eq_true.mp ok_e _ (codes_mem hF hk)
  unfold okE at h
  rw [Bool.and_eq_true, Bool.and_eq_true, Bool.and_eq_true] at h
  obtain ⟨⟨⟨h1, h2⟩, h3⟩, h4⟩ := h
  obtain ⟨e1, e2⟩ := words ok
  refine ⟨_, List.isPerm_iff.mp h3, by rw [e1]; exact eq_of_beq h1, by rw [e2]; exact eq_of_beq h2, fun row hrow => ?_⟩
  obtain ⟨q, hq, rfl⟩ := List.mem_map.mp hrow
  obtain ⟨l1, l2, l3⟩ := lays ok F [] (fun _ h => h) (fun _ h => by cases h)
  rw [List.map_nil] at l1 l2
  rw [l1, place_map ok l3 hq, l2]
  have := List.all_eq_true.mp h4 _ (List.mem_map_of_mem hq)
  rw [Bool.and_eq_true, decide_eq_true_iff, decide_eq_true_iff] at this
  exact this
end
end
section
section
variable {prog : Program} {w : World} {A : Around} {E : Value → Shared → Prop} {s : Shared} {env : Env}
noncomputable def OneF (xs : List Str) (i : Nat) (k : Str) (y : Value) : Prop := xs[i]? = some k ∧ ∃ t, y = .int 1 t
theorem one_flat {xs : List Str} : ∀ {n kvs}, StoredN (OneF xs) n kvs → n ≤ xs.length → PyProof.V.FlatPairs PyData.str kvs (kdpD (putAll [] (ones (xs.take n)))) := by
  intro n kvs g
  induction g with
  | nil => intro _; exact .nil
  | @snoc i kvs k y _ f ih =>
    intro hn
    obtain ⟨hk, t, rfl⟩ := f
    have e : xs.take (i + 1) = xs.take i ++ [k] := by rw [List.take_add_one, hk]; rfl
    have e2 : putAll [] (ones (xs.take i ++ [k])) = kdpPut (putAll [] (ones (xs.take i))) k 1 := by
      unfold putAll ones
      rw [List.map_append, List.foldl_append]
      rfl
    rw [e, e2, ← kdpD_put]
    exact (ih (by omega)).stored PyProof.V.same_str k (PyProof.V.Flat.int 1 t)
noncomputable def DcSrc {K : Type} [DecidableEq K] (prog : Program) (w : World) (A : Around) (env : Env) (target kx vx : Expr) (scope : Scope) (cl : List (Str × Addr)) (knd : KeyKind prog w K) (FKV : Nat → K → Value → Prop) (y : Str) (Q : Flow → Shared → Prop) (it : Value) (s₂ : Shared) : Prop :=
  ∃ (I : Addr) (fp wr : List Addr) (n : Nat) (P Md : Nat → Value → Heap → Prop) (St : Nat → Heap → Prop) (m : Str → Option Value), Al5 (it = .ref I) (KTurns prog w A target I fp wr n P Md St) ((∀ (s : Shared) (Q : Value → Shared → Prop) (E : Value → Shared → Prop), St 0 s.heap → Q (.ref I) s → wpAny (model prog w) A (pyIter (.ref I)) Q E s)) (n ≤ sizeLine) (Al5 (St 0 s₂.heap) ((∀ b ∈ fp, b < s₂.heap.objs.size)) (env.locals ∉ wr) (s₂.heap.Ns env.locals m) (((∀ C (E' : Value → Shared → Prop) i v h₁ tk₁ m₁, s₂.heap.objs.size ≤ C → i < n → P i v h₁ → h₁.Ns C m₁ → (∀ b o, b ∉ wr → s₂.heap.get? b = some o → h₁.get? b = some o) →
        wpAny (model prog w) A (assign target (compEnvC scope cl C env) v) (fun _ s₃ => wpAny (model prog w) A (eval kx (compEnvC scope cl C env)) (fun key s₄ => wpAny (model prog w) A (eval vx (compEnvC scope cl C env)) (fun y s₅ => DcEnd knd FKV i C { s₂ with heap := h₁, toks := tk₁ } key y s₅)
          E' s₄) E' s₃) E' { s₂ with heap := h₁, toks := tk₁ })) ∧ ((∀ D h' tk kvs, s₂.heap.get? D = none → s₂.heap.objs.size ≤ D → h'.DictOf knd D kvs → StoredN FKV n kvs → h'.Ns env.locals (fun z => if z = y then some (.ref D) else m z) → (∀ b o, b ≠ env.locals → b ∉ wr → s₂.heap.get? b = some o → h'.get? b = some o) → Q .next { s₂ with heap := h', toks := tk }))))
theorem Assign_DictComp_src {K : Type} [DecidableEq K] {kx vx iter target : Expr} {y : Str} {py : Pos} {scope : Scope} {cl : List (Str × Addr)} {pos spos : Pos} {Q : Flow → Shared → Prop} (knd : KeyKind prog w K) (FKV : Nat → K → Value → Prop)
    (hsw : swapsWith (.DictComp kx vx [⟨target, iter, [], 0⟩] scope pos) (some (.Name y py)) spos.line env = pure true)
    (hclos : closureFor scope env = pure cl) (hcell : ∀ y ∈ scope.names, y.2 ≠ .cell) (hkind : scope.kind = .function)
    (hnames : ∀ y ∈ scope.names, y.2 = .local → scope.names.lookup y.1 = some .local)
    (hy : env.kindOf y = some .local) (hp : (env.scope.kind == .class || (env.scope.kind == .module && env.locals != env.globals)) = false)
    (h : wpAny (model prog w) A (eval iter env) (fun xv s₁ => wpAny (model prog w) A (pyIter xv) (fun it s₂ => DcSrc prog w A env target kx vx scope cl knd FKV y Q it s₂) E s₁) E s)
    (hs : ∀ x, foldedSetIterable iter env x = pure x) :
    wpAny (model prog w) A (exec (.Assign [.Name y py] (.DictComp kx vx [⟨target, iter, [], 0⟩] scope pos) spos) env) Q E s :=
  Assign_DictComp_turns knd FKV hsw hclos hcell hkind hnames hy hp h hs
theorem dsrc_strs {x : Str} {px pk : Pos} {vx : Expr} {scope : Scope} {cl : List (Str × Addr)} {y : Str} {Q : Flow → Shared → Prop} {ax : Addr} {vs : List Value} {xs : List Str} {m : Str → Option Value} (hh : A.handled = none) (hl : s.heap.IsList ax vs.toArray) (hst : StrsAre vs xs) (hsz : vs.length ≤ sizeLine) (hn : s.heap.Ns env.locals m)
    (hx : ∀ C, (compEnvC scope cl C env).kindOf x = some .local) (hp : ∀ C, ((compEnvC scope cl C env).scope.kind == .class || ((compEnvC scope cl C env).scope.kind == .module && (compEnvC scope cl C env).locals != (compEnvC scope cl C env).globals)) = false) (hb : (x == ("__debug__" : Str)) = false)
    (hnm : ∀ C (s' : Shared) (m' : Str → Option Value) (v : Value) (Q' E' : Value → Shared → Prop), s'.heap.Ns C m' → m' x = some v → Q' v s' → wpAny (model prog w) A (eval (.Name x pk) (compEnvC scope cl C env)) Q' E' s')
    (hv : ∀ C (s' : Shared) (Q' E' : Value → Shared → Prop), (∀ t tk', Q' (.int 1 t) { s' with toks := tk' }) → wpAny (model prog w) A (eval vx (compEnvC scope cl C env)) Q' E' s')
    (done : ∀ D h' tk kvs, s.heap.get? D = none → s.heap.objs.size ≤ D → h'.DictOf (strKind prog w) D kvs → StoredN (OneF xs) vs.length kvs → h'.Ns env.locals (fun z => if z = y then some (.ref D) else m z) → (∀ b o, b ≠ env.locals → s.heap.get? b = some o → h'.get? b = some o) → Q .next { s with heap := h', toks := tk }) :
    wpAny (model prog w) A (pyIter (.ref ax)) (fun it s₂ => DcSrc prog w A env (.Name x px) (.Name x pk) vx scope cl (strKind prog w) (OneF xs) y Q it s₂) E s := by
  obtain ⟨lo, hax, hc, n, hd⟩ := id hl
  have hlt : ax < s.heap.objs.size := Heap.lt_size hax
  have hne : ax ≠ s.heap.objs.size := Nat.ne_of_lt hlt
  refine wpAny_pyIter_list hl ?_
  have up : ∀ b o, s.heap.get? b = some o → (s.heap.push { cls := .type "list_iterator", data := .fields #[.ref ax, .int 0 0] }).get? b = some o ∧ b ∉ [s.heap.objs.size] := fun b o e =>
    ⟨Heap.get?_push_of_some _ e, fun h => absurd (Heap.lt_size e) ((List.mem_singleton.mp h) ▸ Nat.lt_irrefl _)⟩
  refine ⟨s.heap.objs.size, _, _, _, _, _, _, m, rfl, KTurns.ofWalks (Walks.list hh s.heap.objs.size ax hne vs.toArray) fun i v s Q E st q => letGo_listiter st.1 q,
    fun s' Q E st q => (Walks.list hh s.heap.objs.size ax hne vs.toArray).self 0 s' Q E st q, by simpa using hsz, ⟨⟨_, Heap.get?_push_size _ rfl, rfl, rfl⟩, hl.at fun o e => Heap.get?_push_of_some _ e⟩, ?_, fun h => absurd hn.lt ((List.mem_singleton.mp h) ▸ Nat.lt_irrefl _), hn.push _, ?_, ?_⟩
  · intro b hb
    have hb' : b = s.heap.objs.size ∨ b = ax := by simpa using hb
    show b < (Heap.push _ _).objs.size
    rw [Heap.size_push]
    rcases hb' with e | e
    · rw [e]; exact Nat.lt_succ_self _
    · rw [e]; exact Nat.lt_succ_of_lt hlt
  · intro C E' i v h₁ tk₁ m₁ hC _ hP hn' hk
    obtain ⟨z, t, hz, rfl⟩ := strsAre_get hst (i := i) (v := v) (by simpa using hP)
    refine wpAny_assign_Name (wpAny_storeName_local (hx C) hn' (fun h₂ hn₂ hs₂ => ?_) (hp C))
    refine hnm C _ _ _ _ _ hn₂ (if_pos rfl) ?_
    refine hv C _ _ _ fun t' tk' => ?_
    exact ⟨⟨z, strKind_is _ _ _ _, hz, t', rfl⟩, h₂, _, _, rfl, hn₂, fun b o hb e => hs₂.extBut b o hb e⟩
  · intro D h' tk kvs hD hDz hdo hst' hns hk
    have hDz' : (s.heap.push { cls := .type "list_iterator", data := .fields #[.ref ax, .int 0 0] }).objs.size ≤ D := hDz
    rw [Heap.size_push] at hDz'
    refine done D h' tk kvs (Heap.get?_none_of_le (Nat.le_of_succ_le hDz')) (Nat.le_of_succ_le hDz') hdo (by simpa using hst') hns fun b o hb e => hk b o hb (up b o e).2 (up b o e).1
end
end
section
inductive StepD (g : Array GenState) (d : Drawn) (o : OsState) (J : Heap → Prop) : Flow → Shared → Prop
  | mk (h : Heap) (tk : Nat) : J h → StepD g d o J .next { heap := h, gens := g, drawn := d, toks := tk, os := o }
theorem stepS {M : Model} {A : Around} {st : Stmt} {rest : List Stmt} {env : Env} {Q : Flow → Shared → Prop} {E : Value → Shared → Prop} {h₁ : Heap} {g : Array GenState} {d : Drawn} {t : Nat} {o : OsState} (J : Heap → Prop)
    (h1 : ∀ P : Flow → Shared → Prop, (∀ f s', StepD g d o J f s' → Shut P f s') → wpAny M A (exec st env) (Shut P) E { heap := h₁, gens := g, drawn := d, toks := t, os := o })
    (h2 : ∀ h tk, J h → wpAny M A (execs rest env) Q E { heap := h, gens := g, drawn := d, toks := tk, os := o }) : wpAny M A (execs (st :: rest) env) Q E { heap := h₁, gens := g, drawn := d, toks := t, os := o } := by
  refine wpAny_execs_cons (wpAny_mono (h1 _ fun _ _ x => x) (fun f s' h => ?_) fun _ _ e => e)
  obtain ⟨h', tk, hj⟩ := h
  exact h2 h' tk hj
theorem genS {α : Type} {M : Model} {A : Around} {t : Sem α} {Q : α → Shared → Prop} {E : Value → Shared → Prop} {h : Heap} {g : Array GenState} {d : Drawn} {tk : Nat} {o : OsState}
    (H : ∀ g' d' o', g = g' → d = d' → o = o' → wpAny M A t Q E { heap := h, gens := g', drawn := d', toks := tk, os := o' }) : wpAny M A t Q E { heap := h, gens := g, drawn := d, toks := tk, os := o } := H g d o rfl rfl rfl
theorem shutQ {α : Type} {M : Model} {A : Around} {t : Sem α} {R : α → Shared → Prop} {E : Value → Shared → Prop} {s : Shared} (h : ∀ P E', (∀ a s, R a s → Shut P a s) → wpAny M A t (Shut P) E' s) : wpAny M A t R E s := h R E fun _ _ x => x
theorem fr_base {h₀ h : Heap} {L : Addr} {m : Str → Option Value} (_ : Fr h₀ L h m) : ∃ g, g = h₀ := ⟨h₀, rfl⟩
noncomputable def drawnOf (xs : List Int) : List Int := (xs.take 20).map fun x => x.fmod (10 ^ 6)
noncomputable def Off (L1 : Addr) (led : List (Addr × Obj)) : Prop := ∀ p ∈ led, p.1 ≠ L1 + 1 ∧ p.1 ≠ L1 + 1 + 1 ∧ p.1 ≠ 109 ∧ p.1 ≠ 102
theorem off_lt {L1 d : Addr} (h0 : 109 < L1 ∧ 102 < L1) (h : L1 + 1 + 1 < d) : d ≠ L1 + 1 ∧ d ≠ L1 + 1 + 1 ∧ d ≠ 109 ∧ d ≠ 102 :=
  ⟨Nat.ne_of_gt (Nat.lt_of_succ_lt h), Nat.ne_of_gt h, Nat.ne_of_gt (Nat.lt_trans h0.1 (Nat.lt_of_succ_lt (Nat.lt_of_succ_lt h))), Nat.ne_of_gt (Nat.lt_trans h0.2 (Nat.lt_of_succ_lt (Nat.lt_of_succ_lt h)))⟩
inductive LawJ (G0 : Heap) (L1 : Addr) (vars : List (Str × Value)) (c1 c2 : Option Value) (p9 p2 : Array Value) (led : List (Addr × Obj)) (h : Heap) : Prop
  | mk : ∀ m o1 o2, Fr G0 L1 h m → News G0 L1 h ((L1 + 1 + 1, o2) :: (L1 + 1, o1) :: (109, tabObj p9) :: (102, tabObj p2) :: led) → o1.data = .cell c1 → o2.data = .cell c2 → Off L1 led → AllAt m vars → LawJ G0 L1 vars c1 c2 p9 p2 led h
noncomputable def RestF (xs : List Int) (_ : Addr) (i : Nat) (o : Option Value) (_ : Heap) : Prop := (Ex2 fun x t => xs[i]? = some x ∧ o = some (.int (x.fmod (10 ^ 6)) t))
theorem intsF_list {f : Int → Int} {xs : List Int} {F : Addr → Nat → Option Value → Heap → Prop} (hF : ∀ C i o h, F C i o h → (Ex2 fun x t => xs[i]? = some x ∧ o = some (.int (f x) t))) {C : Addr} {h : Heap} : ∀ {n vs}, GotN (F C) h n vs → IntsAre vs ((xs.take n).map f) := by
  intro n vs g
  induction g with
  | nil => exact .nil
  | @keep i vs y _ fy ih =>
    obtain ⟨x, t, hx, e⟩ := hF _ _ _ _ fy
    cases e
    rw [List.take_add_one, hx]
    show IntsAre _ (List.map _ (_ ++ [x]))
    rw [List.map_append]
    exact intsAre_append ih (.cons _ _ .nil)
  | skip _ fy _ => obtain ⟨_, _, _, e⟩ := hF _ _ _ _ fy; cases e
theorem ints_name {vs : List Value} {xs : List Int} (_ : IntsAre vs xs) : ∃ ys, ys = xs := ⟨xs, rfl⟩
theorem law_end {G0 h : Heap} {L1 : Addr} {m : Str → Option Value} {o1 o2 : Obj} {c1 c2 : Option Value} {p9 p2 : Array Value} {led news : List (Addr × Obj)} {vars : List (Str × Value)} (F : Fr G0 L1 h m) (N : News G0 L1 h news) (m2 : (L1 + 1 + 1, o2) ∈ news) (m1 : (L1 + 1, o1) ∈ news) (m9 : (109, tabObj p9) ∈ news) (m8 : (102, tabObj p2) ∈ news)
    (hl : ∀ p ∈ led, p ∈ news) (d1 : o1.data = .cell c1) (d2 : o2.data = .cell c2) (ab : Off L1 led) (hv : AllAt m vars) : LawJ G0 L1 vars c1 c2 p9 p2 led h :=
  ⟨m, o1, o2, F, fun p hp => N p (by
    rcases List.mem_cons.mp hp with rfl | hp
    · exact m2
    rcases List.mem_cons.mp hp with rfl | hp
    · exact m1
    rcases List.mem_cons.mp hp with rfl | hp
    · exact m9
    rcases List.mem_cons.mp hp with rfl | hp
    · exact m8
    exact hl p hp), d1, d2, ab, hv⟩
noncomputable def AnyInt (_ : Addr) (_ : Nat) (o : Option Value) (_ : Heap) : Prop := (Ex2 fun z t => o = some (.int z t))
theorem anyInt_list {C : Addr} {h : Heap} : ∀ {n vs}, GotN (AnyInt C) h n vs → ∃ zs : List Int, zs.length = n ∧ IntsAre vs zs := by
  intro n vs g
  induction g with
  | nil => exact ⟨[], rfl, .nil⟩
  | @keep i vs y _ f ih =>
    obtain ⟨zs, hl, hz⟩ := ih
    obtain ⟨z, t, e⟩ := f
    cases e
    exact ⟨zs ++ [z], by rw [List.length_append, hl]; rfl, intsAre_append hz (.cons _ _ .nil)⟩
  | skip _ f _ => obtain ⟨_, _, e⟩ := f; cases e
theorem ints_pick {vs : List Value} {ns : List Int} (h : IntsAre vs ns) (lo hi st : Option Int) : (Ex2 fun ms ws => Al3 (slicePick vs.toArray lo hi st = List.toArray ws) (IntsAre ws ms) (ws.length ≤ vs.length)) := by
  have key : ∀ l : List Nat, ∃ ms, IntsAre (l.filterMap (vs.toArray[·]?)) ms := by
    intro l
    induction l with
    | nil => exact ⟨[], .nil⟩
    | cons i l ih =>
      obtain ⟨ms, hm⟩ := ih
      rw [List.filterMap_cons]
      cases e : vs.toArray[i]? with
      | none => exact ⟨ms, hm⟩
      | some v =>
        obtain ⟨x, t, _, rfl⟩ := intsAre_get h (i := i) (v := v) (by simpa using e)
        exact ⟨x :: ms, .cons x t hm⟩
  obtain ⟨ms, hm⟩ := key (sliceRange (sliceBounds lo hi st vs.toArray.size).1 (sliceBounds lo hi st vs.toArray.size).2.1 (sliceBounds lo hi st vs.toArray.size).2.2)
  exact ⟨ms, _, rfl, hm, by
    have := slicePick_size_le vs.toArray lo hi st
    unfold slicePick at this
    simpa using this⟩
noncomputable def allNews (g : Heap) (C : Addr) (h : Heap) : List (Addr × Obj) := (List.range h.objs.size).filterMap fun b => if b = C ∨ (g.get? b).isSome = true then none else (h.get? b).map fun o => (b, o)
theorem all_news {g h : Heap} {C : Addr} : News g C h (allNews g C h) := by
  intro p hp
  obtain ⟨b, _, e⟩ := List.mem_filterMap.mp hp
  by_cases c : b = C ∨ (g.get? b).isSome = true
  · rw [if_pos c] at e; cases e
  · rw [if_neg c] at e
    obtain ⟨o, ho, rfl⟩ := Option.map_eq_some_iff.mp e
    refine ⟨ho, fun e => c (.inl e), ?_⟩
    cases hg : g.get? b with
    | none => rfl
    | some o' => exact absurd (.inr (by rw [hg]; rfl)) c
theorem mem_allNews {g h : Heap} {C b : Addr} {o : Obj} (e : h.get? b = some o) (hb : b ≠ C) (hg : g.get? b = none) : (b, o) ∈ allNews g C h := by
  refine List.mem_filterMap.mpr ⟨b, List.mem_range.mpr (Heap.lt_size e), ?_⟩
  rw [if_neg (by rintro (h | h); exact hb h; rw [hg] at h; cases h), e]; rfl
theorem full_keep {g h h' : Heap} {C : Addr} {m m0 : Str → Option Value} {news : List (Addr × Obj)} (F0 : Fr g C h m0) (F : Fr g C h' m) (N : News g C h' news) (hs : ∀ p ∈ allNews g C h, p ∈ news) : ∀ b o, b ≠ C → h.get? b = some o → h'.get? b = some o := by
  intro b o hb e
  cases hg : g.get? b with
  | none => exact (N _ (hs _ (mem_allNews e hb hg))).1
  | some o' =>
    have := F0.keep b o' hg
    rw [e] at this
    rw [Option.some.inj this]
    exact F.keep b o' hg
theorem asg_fr {g h h' : Heap} {L : Addr} {m m' : Str → Option Value} (F : Fr g L h m) (hns : h'.Ns L m') (hk : ∀ b o, b ≠ L → h.get? b = some o → h'.get? b = some o) : Fr g L h' m' :=
  ⟨hns, fun b o e => hk b o (Nat.ne_of_lt (Nat.lt_of_lt_of_le (Heap.lt_size e) F.above)) (F.keep b o e), F.above⟩
theorem asg_news {g h h' : Heap} {L : Addr} {news : List (Addr × Obj)} (N : News g L h news) (hk : ∀ b o, b ≠ L → h.get? b = some o → h'.get? b = some o) : News g L h' news :=
  fun p hp => ⟨hk _ _ (N p hp).2.1 (N p hp).1, (N p hp).2⟩
theorem asg_new {g h h' : Heap} {L D : Addr} {o : Obj} {m : Str → Option Value} (F : Fr g L h m) (ho : h'.get? D = some o) (hD : h.objs.size ≤ D) : h'.get? D = some o ∧ D ≠ L ∧ g.get? D = none :=
  ⟨ho, Nat.ne_of_gt (Nat.lt_of_lt_of_le F.ns.lt hD), Heap.get?_none_of_le (Nat.le_trans F.above (Nat.le_trans (Nat.le_of_lt F.ns.lt) hD))⟩
theorem news_hd {g h : Heap} {L D : Addr} {o : Obj} {r : List (Addr × Obj)} (x : h.get? D = some o ∧ D ≠ L ∧ g.get? D = none) (N : News g L h r) : News g L h ((D, o) :: r) := fun p hp => by
  rcases List.mem_cons.mp hp with rfl | hp
  · exact x
  · exact N p hp
noncomputable def figOf (z : Int) (i : Nat) : Row := (z.fmod 3, (z.fdiv 3).fmod 3, z.fdiv 9, (i : Int))
noncomputable def FigF (nums : List Int) (C : Addr) (i : Nat) (o : Option Value) (h : Heap) : Prop :=
  (Ex5 fun T z t1 t2 t3 => ∃ t4, Al4 (nums[i]? = some z) (o = some (.ref T)) (C < T) (h.get? T = some (tupOf [.int (figOf z i).1 t1, .int (figOf z i).2.1 t2, .int (figOf z i).2.2.1 t3, .int (figOf z i).2.2.2 t4])))
noncomputable def FigL (led : List (Addr × Obj)) (v : Value) (q : Row) : Prop := (Ex5 fun T t1 t2 t3 t4 => v = .ref T ∧ (T, tupOf [.int q.1 t1, .int q.2.1 t2, .int q.2.2.1 t3, .int q.2.2.2 t4]) ∈ led)
noncomputable def figsOf (nums : List Int) (n : Nat) : List Row := (nums.take n).mapIdx fun i z => figOf z i
theorem FigL.up {led led' : List (Addr × Obj)} {vs : List Value} {qs : List Row} (h : ∀ p ∈ led, p ∈ led') (x : Paired (FigL led) vs qs) : Paired (FigL led') vs qs :=
  paired_mono (fun _ _ ⟨T, u1, u2, u3, u4, e, hm⟩ => ⟨T, u1, u2, u3, u4, e, h _ hm⟩) x
theorem fig_led {nums : List Int} {C : Addr} {h : Heap} : ∀ {n vs}, GotN (FigF nums C) h n vs → ∃ led : List (Addr × Obj), (∀ p ∈ led, h.get? p.1 = some p.2 ∧ C < p.1) ∧ Paired (FigL led) vs (figsOf nums n) := by
  intro n vs g
  induction g with
  | nil => exact ⟨[], fun _ hp => (by cases hp), .nil⟩
  | @keep i vs y _ f ih =>
    obtain ⟨led, hl, hp⟩ := ih
    obtain ⟨T, z, t1, t2, t3, t4, hz, e, hT, hg⟩ := f
    cases e
    refine ⟨led ++ [(T, tupOf [.int (figOf z i).1 t1, .int (figOf z i).2.1 t2, .int (figOf z i).2.2.1 t3, .int (figOf z i).2.2.2 t4])], fun p hp => ?_, ?_⟩
    · rcases List.mem_append.mp hp with hp | hp
      · exact hl p hp
      · rw [List.mem_singleton.mp hp]; exact ⟨hg, hT⟩
    · unfold figsOf
      rw [List.take_add_one, hz]
      show Paired _ _ (List.mapIdx _ (nums.take i ++ [z]))
      rw [List.mapIdx_append, List.length_take, Nat.min_eq_left (Nat.le_of_lt (List.getElem?_eq_some_iff.mp hz).1)]
      exact paired_append (FigL.up (fun p hp => List.mem_append_left _ hp) hp) (.cons ⟨T, t1, t2, t3, t4, rfl, by simp [figOf]⟩ .nil)
  | skip _ f _ => obtain ⟨_, _, _, _, _, _, _, e, _⟩ := f; cases e
noncomputable def RowF (figs : List Row) (C : Addr) (i : Nat) (o : Option Value) (h : Heap) : Prop :=
  (Ex5 fun T q t1 t2 t3 => ∃ t4, Al4 (figs[i]? = some q) (o = some (.ref T)) (C < T) (h.get? T = some (tupOf [.int q.1 t1, .str (abS q.2.1) t2, .int q.2.2.1 t3, .int q.2.2.2 t4])))
noncomputable def RowL (led : List (Addr × Obj)) (v : Value) (q : Row) : Prop := (Ex5 fun T t1 t2 t3 t4 => v = .ref T ∧ (T, tupOf [.int q.1 t1, .str (abS q.2.1) t2, .int q.2.2.1 t3, .int q.2.2.2 t4]) ∈ led)
theorem RowL.up {led led' : List (Addr × Obj)} {vs : List Value} {qs : List Row} (h : ∀ p ∈ led, p ∈ led') (x : Paired (RowL led) vs qs) : Paired (RowL led') vs qs :=
  paired_mono (fun _ _ ⟨T, u1, u2, u3, u4, e, hm⟩ => ⟨T, u1, u2, u3, u4, e, h _ hm⟩) x
theorem row_led {figs : List Row} {C : Addr} {h : Heap} : ∀ {n vs}, GotN (RowF figs C) h n vs → ∃ led : List (Addr × Obj), (∀ p ∈ led, h.get? p.1 = some p.2 ∧ C < p.1) ∧ Paired (RowL led) vs (figs.take n) := by
  intro n vs g
  induction g with
  | nil => exact ⟨[], fun _ hp => (by cases hp), .nil⟩
  | @keep i vs y _ f ih =>
    obtain ⟨led, hl, hp⟩ := ih
    obtain ⟨T, q, t1, t2, t3, t4, hz, e, hT, hg⟩ := f
    cases e
    refine ⟨led ++ [(T, tupOf [.int q.1 t1, .str (abS q.2.1) t2, .int q.2.2.1 t3, .int q.2.2.2 t4])], fun p hp => ?_, ?_⟩
    · rcases List.mem_append.mp hp with hp | hp
      · exact hl p hp
      · rw [List.mem_singleton.mp hp]; exact ⟨hg, hT⟩
    · rw [take_get hz]
      exact paired_append (RowL.up (fun p hp => List.mem_append_left _ hp) hp) (.cons ⟨T, t1, t2, t3, t4, rfl, by simp⟩ .nil)
  | skip _ f _ => obtain ⟨_, _, _, _, _, _, _, e, _⟩ := f; cases e
theorem int4 {z : Int} (h0 : 0 ≤ z) (h1 : z < 4) : z = 0 ∨ z = 1 ∨ z = 2 ∨ z = 3 := by
  obtain ⟨n, rfl⟩ := Int.eq_ofNat_of_zero_le h0
  exact (by decide : ∀ m : Fin 4, ((m : Nat) : Int) = 0 ∨ ((m : Nat) : Int) = 1 ∨ ((m : Nat) : Int) = 2 ∨ ((m : Nat) : Int) = 3) ⟨n, Int.ofNat_lt.mp h1⟩
theorem int3 {z : Int} (h0 : 0 ≤ z) (h1 : z < 3) : z = 0 ∨ z = 1 ∨ z = 2 := by
  obtain ⟨n, rfl⟩ := Int.eq_ofNat_of_zero_le h0
  exact (by decide : ∀ m : Fin 3, ((m : Nat) : Int) = 0 ∨ ((m : Nat) : Int) = 1 ∨ ((m : Nat) : Int) = 2) ⟨n, Int.ofNat_lt.mp h1⟩
theorem figs_two {nums : List Int} {n : Nat} : ∀ q ∈ figsOf nums n, q.2.1 = 0 ∨ q.2.1 = 1 ∨ q.2.1 = 2 := by
  intro q hq
  unfold figsOf at hq
  obtain ⟨i, hi, rfl⟩ := List.mem_mapIdx.mp hq
  have h1 := Int.fmod_nonneg_of_pos ((List.take n nums)[i].fdiv 3) (show (0 : Int) < 3 by decide)
  have h2 := Int.fmod_lt_of_pos ((List.take n nums)[i].fdiv 3) (show (0 : Int) < 3 by decide)
  exact int3 h1 h2
theorem assign4 {prog : Program} {w : World} {A : Around} {E : Value → Shared → Prop} {s : Shared} {env : Env} {a b c d : Str} {pa pb pc pd tp : Pos} {kk : Nat} {T : Addr} {x y z u : Value} {m : Str → Option Value} {Q : Unit → Shared → Prop} (hh : A.handled = none) (ht : s.heap.IsTuple T #[x, y, z, u])
    (ha : env.kindOf a = some .local) (hb : env.kindOf b = some .local) (hc : env.kindOf c = some .local) (hd : env.kindOf d = some .local) (hp : (env.scope.kind == .class || (env.scope.kind == .module && env.locals != env.globals)) = false) (hn : s.heap.Ns env.locals m)
    (h : ∀ (h' : Heap) (tk : Nat), h'.Ns env.locals (fun t => if t = d then some u else if t = c then some z else if t = b then some y else if t = a then some x else m t) → (∀ e o, e ≠ env.locals → s.heap.get? e = some o → h'.get? e = some o) → Q () { s with heap := h', toks := tk }) :
    wpAny (model prog w) A (assign (.Tuple [.Name a pa, .Name b pb, .Name c pc, .Name d pd] kk tp) env (.ref T)) Q E s := by
  refine wpAny_assign_Tuple hh ht rfl rfl fun h₁ he₁ => ?_
  have hL : env.locals ≠ s.heap.objs.size := Nat.ne_of_lt hn.lt
  have hn₁ : h₁.Ns env.locals m := hn.at' fun o e => he₁ _ o hL e
  have up₁ : ∀ c o, s.heap.get? c = some o → h₁.get? c = some o := fun c o e => he₁ c o (Nat.ne_of_lt (Heap.lt_size e)) e
  show wpAny _ _ (assignInOrder [assign (.Name a pa) env, assign (.Name b pb) env, assign (.Name c pc) env, assign (.Name d pd) env] [x, y, z, u]) _ _ _
  refine assignInOrder_cons ?_
  refine wpAny_assign_Name (wpAny_storeName_local ha hn₁ (fun h₂ hn₂ hs₂ => ?_) hp)
  refine assignInOrder_cons ?_
  refine wpAny_assign_Name (wpAny_storeName_local hb hn₂ (fun h₃ hn₃ hs₃ => ?_) hp)
  refine assignInOrder_cons ?_
  refine wpAny_assign_Name (wpAny_storeName_local hc hn₃ (fun h₄ hn₄ hs₄ => ?_) hp)
  refine assignInOrder_cons ?_
  refine wpAny_assign_Name (wpAny_storeName_local hd hn₄ (fun h₅ hn₅ hs₅ => ?_) hp)
  refine assignInOrder_nil ?_
  exact h h₅ _ hn₅ fun c o hc e => hs₅.extBut c o hc (hs₄.extBut c o hc (hs₃.extBut c o hc (hs₂.extBut c o hc (up₁ c o e))))
theorem key_bd {a : Nat} {s : Int} (h : 0 ≤ s ∧ s ≤ 20 * 10 ^ 6 ∧ a ≤ 20) : 0 ≤ 198 + (a : Int) + s ∧ 198 + (a : Int) + s < 10 ^ 9 := by omega
theorem drawn_bd (xs : List Int) : 0 ≤ (drawnOf xs).sum ∧ (drawnOf xs).sum ≤ 20 * 10 ^ 6 ∧ (drawnOf xs).length ≤ 20 := by
  have key : ∀ l : List Int, 0 ≤ (l.map fun x => x.fmod (10 ^ 6)).sum ∧ (l.map fun x => x.fmod (10 ^ 6)).sum ≤ l.length * 10 ^ 6 := by
    intro l
    induction l with
    | nil => exact ⟨Int.le_refl 0, Int.le_refl 0⟩
    | cons x l ih =>
      rw [List.map_cons, List.sum_cons, List.length_cons]
      have h1 := Int.fmod_nonneg_of_pos x (show (0 : Int) < 10 ^ 6 by decide)
      have h2 := Int.fmod_lt_of_pos x (show (0 : Int) < 10 ^ 6 by decide)
      generalize x.fmod (10 ^ 6) = y at h1 h2 ⊢
      generalize (l.map fun x => x.fmod (10 ^ 6)).sum = z at ih ⊢
      rw [Int.natCast_succ]
      omega
  unfold drawnOf
  have h := key (xs.take 20)
  have hl : (xs.take 20).length ≤ 20 := by rw [List.length_take]; omega
  refine ⟨h.1, Int.le_trans h.2 (by omega), by rw [List.length_map]; exact hl⟩
theorem new_off {h h9 g : Heap} {L1 b L : Addr} {o oa ob oc od : Obj} {news : List (Addr × Obj)} (x : NewAt h h9 b o) (N : News g L h news) (h1 : (L1 + 1, oa) ∈ news) (h2 : (L1 + 1 + 1, ob) ∈ news) (h3 : (109, oc) ∈ news) (h4 : (102, od) ∈ news) : b ≠ L1 + 1 ∧ b ≠ L1 + 1 + 1 ∧ b ≠ 109 ∧ b ≠ 102 := by
  have key : ∀ {c : Addr} {q : Obj}, (c, q) ∈ news → b ≠ c := fun hm e => by
    have h5 := x.2
    have h6 := (N _ hm).1
    rw [e] at h5
    rw [h5] at h6; cases h6
  exact ⟨key h1, key h2, key h3, key h4⟩
theorem new_news {g h h9 : Heap} {L : Addr} {m : Str → Option Value} {led : List (Addr × Obj)} (F : Fr g L h m) (x : ∀ p ∈ led, NewAt h h9 p.1 p.2) : News g L h9 led := fun p hp => by
  obtain ⟨h1, h2⟩ := x p hp
  refine ⟨h1, fun e => ?_, ?_⟩
  · obtain ⟨o, _, _, ho, _⟩ := F.ns
    rw [e, ho] at h2; cases h2
  · cases hg : g.get? p.1 with
    | none => rfl
    | some o => rw [F.keep _ _ hg] at h2; cases h2
theorem keyL_up {led led' : List (Addr × Obj)} {vs : List Value} {qs : List (Int × Int)} (h : ∀ p ∈ led, p ∈ led') (x : Paired (KeyL led) vs qs) : Paired (KeyL led') vs qs :=
  paired_mono (fun _ _ ⟨T, u1, u2, e, hm⟩ => ⟨T, u1, u2, e, h _ hm⟩) x
theorem sg_ne (n : Int) (i : Nat) : sgOf n i ≠ 0 := by
  have h0 := Int.fmod_nonneg_of_pos ((n.fdiv 6).fdiv (4 ^ i)) (show (0 : Int) < 4 by decide)
  have h1 := Int.fmod_lt_of_pos ((n.fdiv 6).fdiv (4 ^ i)) (show (0 : Int) < 4 by decide)
  rcases int4 h0 h1 with h | h | h | h <;> (rw [sgOf_of h]; decide)
theorem fmod3 (n : Int) : n.fmod 3 = 0 ∨ n.fmod 3 = 1 ∨ n.fmod 3 = 2 ∨ n.fmod 3 = 3 := by
  have h0 := Int.fmod_nonneg_of_pos n (show (0 : Int) < 3 by decide)
  have h1 := Int.fmod_lt_of_pos n (show (0 : Int) < 3 by decide)
  exact (int3 h0 h1).imp_right (Or.imp_right .inl)
theorem keys_col (z : Int) : ∀ k ∈ keysOf z, k.1 = 0 ∨ k.1 = 1 ∨ k.1 = 2 ∨ k.1 = 3 := by
  intro k hk
  simp only [keysOf, List.mem_cons, List.not_mem_nil, or_false] at hk
  rcases hk with rfl | rfl | rfl
  · exact fmod3 _
  · exact fmod3 _
  · exact .inr (.inr (.inr rfl))
theorem keys_dir (z : Int) : ∀ k ∈ keysOf z, k.2 ≠ 0 := by
  intro k hk
  simp only [keysOf, List.mem_cons, List.not_mem_nil, or_false] at hk
  rcases hk with rfl | rfl | rfl <;> exact sg_ne _ _
theorem sg_small (n : Int) (i : Nat) : -3 ≤ sgOf n i ∧ sgOf n i ≤ 3 := by
  have h0 := Int.fmod_nonneg_of_pos ((n.fdiv 6).fdiv (4 ^ i)) (show (0 : Int) < 4 by decide)
  have h1 := Int.fmod_lt_of_pos ((n.fdiv 6).fdiv (4 ^ i)) (show (0 : Int) < 4 by decide)
  rcases int4 h0 h1 with h | h | h | h <;> (rw [sgOf_of h]; decide)
theorem figs_place {nums : List Int} (h : nums.length = 5) : (figsOf nums 5).map (fun q => q.2.2.2) = [0, 1, 2, 3, 4] := by
  obtain ⟨a, b, c, d, e, rfl⟩ := len5 h
  rfl
theorem due_word {nums : List Int} (h : nums.length = 5) (z : Int) : ∃ w : NW, w.Perm abN ∧ wordS (keysOf z) ((figsOf nums 5).map rowV) = toS w ∧ dueS (keysOf z) (figsOf nums 5) = toS w ∧
    ∀ row ∈ (figsOf nums 5).map rowV, 0 ≤ place1 (keysOf z) (((figsOf nums 5).map rowV).foldl (lay1 (keysOf z)) []) row ∧ place1 (keysOf z) (((figsOf nums 5).map rowV).foldl (lay1 (keysOf z)) []) row < 5 :=
  word_due ⟨figs_two, keys_dir z⟩ (figs_place h) ⟨sgOf z 2, sg_ne _ _, by simp [keysOf]⟩
theorem rows_at {h : Heap} {led : List (Addr × Obj)} (N : ∀ p ∈ led, h.get? p.1 = some p.2) : ∀ {vs : List Value} {qs : List Row}, Paired (RowL led) vs qs → Paired (RowS h) vs (qs.map rowV) := by
  intro vs qs x
  induction x with
  | nil => exact .nil
  | cons f _ ih =>
    obtain ⟨T, t1, t2, t3, t4, rfl, hm⟩ := f
    exact .cons ⟨T, t1, t2, t3, t4, rfl, _, N _ hm, rfl, _, rfl⟩ ih
theorem figs_at {h : Heap} {led : List (Addr × Obj)} (N : ∀ p ∈ led, h.get? p.1 = some p.2) {vs : List Value} {qs : List Row} (x : Paired (FigL led) vs qs) : Paired (RowAt h) vs qs :=
  paired_mono (fun _ _ ⟨T, t1, t2, t3, t4, e, hm⟩ => ⟨T, t1, t2, t3, t4, e, _, N _ hm, rfl, _, rfl⟩) x
theorem keys_at {h : Heap} {led : List (Addr × Obj)} (N : ∀ p ∈ led, h.get? p.1 = some p.2) {vs : List Value} {qs : List (Int × Int)} (x : Paired (KeyL led) vs qs) : Paired (KeyAt h) vs qs :=
  paired_mono (fun _ _ ⟨T, t1, t2, e, hm⟩ => ⟨T, t1, t2, e, _, N _ hm, rfl, _, rfl⟩) x
theorem word_fr {g h h' : Heap} {L : Addr} {m : Str → Option Value} {oa ob : Obj} (F : Fr g L h m) (N : News g L h [(109, oa), (102, ob)]) (hk : ∀ b o, b ≠ 109 → b ≠ 102 → h.get? b = some o → h'.get? b = some o) : Fr g L h' m := by
  have n1 := N _ (.head _)
  have n2 := N _ (.tail _ (.head _))
  refine ⟨F.ns.at' fun o e => hk _ o (Ne.symm n1.2.1) (Ne.symm n2.2.1) e, fun b o e => hk b o (fun q => ?_) (fun q => ?_) (F.keep b o e), F.above⟩
  · have := n1.2.2; rw [← q, e] at this; cases this
  · have := n2.2.2; rw [← q, e] at this; cases this
theorem word_news {g h h' : Heap} {L : Addr} {news : List (Addr × Obj)} (N : News g L h news) (off : ∀ p ∈ news, p.1 ≠ 109 ∧ p.1 ≠ 102) (hk : ∀ b o, b ≠ 109 → b ≠ 102 → h.get? b = some o → h'.get? b = some o) : News g L h' news :=
  fun p hp => ⟨hk _ _ (off p hp).1 (off p hp).2 (N p hp).1, (N p hp).2⟩
theorem keys_bits (z : Int) : ∀ k ∈ keysOf z, Builtin.Int.intBits k.2 ≤ 64 := by
  intro k hk
  simp only [keysOf, List.mem_cons, List.not_mem_nil, or_false] at hk
  rcases hk with rfl | rfl | rfl
  all_goals
    have := sg_small z 0
    have := sg_small z 1
    have := sg_small z 2
    exact PySem.intBits_le_64 (by omega) (by omega)
theorem cuts_len : cutsList.length = 35 := by decide +kernel
theorem cuts_at {h : Heap} {led : List (Addr × Obj)} (N : ∀ p ∈ led, h.get? p.1 = some p.2) {vs : List Value} {qs : List Cut} (x : Paired (CutL led) vs qs) : Paired (CutAt h) vs qs :=
  paired_mono (fun _ _ ⟨T, t1, t2, t3, t4, e, hm⟩ => ⟨T, t1, t2, t3, t4, e, _, N _ hm, rfl, _, rfl⟩) x
noncomputable def DictL (w : World) (led : List (Addr × Obj)) (d : Addr) (c : List (Str × Int)) : Prop := (Ex2 fun o kvs => Al4 ((d == sysModules) = false) ((d, o) ∈ led) (o.IsDictOf (strKind PR w) kvs) (PyProof.V.FlatPairs PyData.str kvs (kdpD c)))
theorem DictL.up {w : World} {led led' : List (Addr × Obj)} {d : Addr} {c : List (Str × Int)} (x : DictL w led d c) (h : ∀ p ∈ led, p ∈ led') : DictL w led' d c := let ⟨o, kvs, a, b, r, f⟩ := x; ⟨o, kvs, a, h _ b, r, f⟩
theorem dict_at {w : World} {h : Heap} {led : List (Addr × Obj)} {d : Addr} {c : List (Str × Int)} (N : ∀ p ∈ led, h.get? p.1 = some p.2) (x : DictL w led d c) : DictAt w h d c := let ⟨o, kvs, a, b, r, f⟩ := x; ⟨a, kvs, Heap.dictOf_iff.mpr ⟨o, N _ b, r⟩, f⟩
theorem world_name {w : World} {G : Heap} (_ : (Mine.hd.heap_39 w.params).In G) : ∃ v, v = w := ⟨w, rfl⟩
theorem ones_of {xs : List Str} (hn : xs.Nodup) {n : Nat} {kvs : List (Str × Value)} (g : StoredN (OneF xs) n kvs) (h : n = xs.length) : PyProof.V.FlatPairs PyData.str kvs (kdpD (ones xs)) := by
  have := one_flat g (Nat.le_of_eq h)
  rw [h, List.take_length, putAll_ones xs [] (fun _ _ => rfl) hn, List.nil_append] at this
  exact this
theorem near_nodup : (stepsOf (Str.ofString "abcde")).Nodup := by rw [ab_str, steps_toS ab_perm]; exact steps_nodup ab_perm
theorem far_nodup {w : NW} (h : w.Perm abN) : (stepsOf (toS w)).Nodup := by rw [steps_toS h]; exact steps_nodup h
theorem steps_len (x : Str) : (stepsOf x).length = 35 := by unfold stepsOf; rw [List.length_map, cuts_len]
theorem not_sys {D L1 : Addr} (h0 : 109 < L1 ∧ 102 < L1) (h : L1 < D) : (D == sysModules) = false := by
  have : D ≠ 1 := Nat.ne_of_gt (Nat.lt_trans (by decide : 1 < 109) (Nat.lt_trans h0.1 h))
  exact beq_eq_false_iff_ne.mpr this
theorem off1 {L1 : Addr} {led : List (Addr × Obj)} (h : Off L1 led) : ∀ p ∈ led, p.1 ≠ L1 + 1 := fun p hp => (h p hp).1
theorem off2 {L1 : Addr} {led : List (Addr × Obj)} (h : Off L1 led) : ∀ p ∈ led, p.1 ≠ L1 + 1 + 1 := fun p hp => (h p hp).2.1
noncomputable def ValF (zs : List Int) (_ : Addr) (i : Nat) (o : Option Value) (_ : Heap) : Prop := (Ex2 fun z t => zs[i]? = some z ∧ o = some (.int z t))
theorem valF_list {zs : List Int} {C : Addr} {h : Heap} {n : Nat} {vs : List Value} (g : GotN (ValF zs C) h n vs) : IntsAre vs (zs.take n) := by
  have := intsF_list (f := fun x => x) (F := ValF zs) (fun _ _ _ _ f => f) g
  rwa [List.map_id'] at this
theorem both_sum {w : NW} (h : w.Perm abN) : sumD (bothT w) = 70 := by
  unfold bothT
  rw [(addAll_facts _ _ (keys_ones (far_nodup h))).1, sum_ones, sum_ones, steps_len, steps_len]; rfl
theorem toS_len {w : NW} (h : w.Perm abN) : (toS w).length = 5 := by obtain ⟨a, b, c, d, e, rfl⟩ := five h; rfl
theorem toS_ascii {w : NW} (h : w.Perm abN) : (toS w ++ Str.ofString "f").cps.all (· < 128) = true := by
  obtain ⟨a, b, c, d, e, rfl⟩ := five h
  have l := fun x (hx : x ∈ [a, b, c, d, e]) => letters h hx
  simp only [List.mem_cons, List.not_mem_nil, or_false, forall_eq_or_imp, forall_eq] at l
  have e2 : (toS [a, b, c, d, e] ++ Str.ofString "f").cps = #[a, b, c, d, e, 102] := by kernel_rfl
  rw [e2]
  simp
  exact ⟨Nat.lt_of_le_of_lt l.1.2 (by decide), Nat.lt_of_le_of_lt l.2.1.2 (by decide), Nat.lt_of_le_of_lt l.2.2.1.2 (by decide), Nat.lt_of_le_of_lt l.2.2.2.1.2 (by decide), Nat.lt_of_le_of_lt l.2.2.2.2.2 (by decide)⟩
theorem steps_get {w : NW} (h : w.Perm abN) {svs : List Value} (hs : StrsAre svs (stepsOf (toS w))) {i : Nat} {v : Value} (hv : svs[i]? = some v) : (Ex2 fun u t => Al4 ((stepsN w)[i]? = some u) (v = .str (toS u) t) (u.Perm abN) (u ∈ stepsN w)) := by
  rw [steps_toS h] at hs
  obtain ⟨y, t, hy, rfl⟩ := strsAre_get hs hv
  rw [List.getElem?_map] at hy
  obtain ⟨u, hu, rfl⟩ := Option.map_eq_some_iff.mp hy
  exact ⟨u, t, hu, rfl, steps_perm h (List.mem_of_getElem? hu), List.mem_of_getElem? hu⟩
noncomputable def ringsL (w : NW) : List Int := (stepsN w).map fun u => (ringsN u : Int)
theorem ringsL_get {w u : NW} {i : Nat} (h : (stepsN w)[i]? = some u) : (ringsL w)[i]? = some (ringsN u : Int) := by unfold ringsL; rw [List.getElem?_map, h]; rfl
theorem stepsN_len (w : NW) : (stepsN w).length = 35 := by unfold stepsN; rw [List.length_map]; rfl
theorem ringsL_len (w : NW) : (ringsL w).length = 35 := by unfold ringsL; rw [List.length_map, stepsN_len]
theorem both_has {w : NW} (h : w.Perm abN) {y : Str} (hy : y ∈ stepsOf (toS w)) : kdpHas (bothT w) y = true := by
  unfold bothT
  rw [(addAll_facts _ _ (keys_ones (far_nodup h))).2.1, has_ones, has_ones, decide_eq_true hy, Bool.or_true]
theorem steps_mem {w u : NW} (h : w.Perm abN) (hu : u ∈ stepsN w) : toS u ∈ stepsOf (toS w) := by rw [steps_toS h]; exact List.mem_map_of_mem hu
end
section
section
variable {α : Type} {p a b c d e : α} {l : List α}
theorem mc1 (h : p ∈ a :: l) : p = a ∨ p ∈ l := List.mem_cons.mp h
theorem mc2 (h : p ∈ a :: b :: l) : p = a ∨ p = b ∨ p ∈ l := (List.mem_cons.mp h).imp_right mc1
theorem mc3 (h : p ∈ a :: b :: c :: l) : p = a ∨ p = b ∨ p = c ∨ p ∈ l := (List.mem_cons.mp h).imp_right mc2
theorem mc4 (h : p ∈ a :: b :: c :: d :: l) : p = a ∨ p = b ∨ p = c ∨ p = d ∨ p ∈ l := (List.mem_cons.mp h).imp_right mc3
theorem mn2 (h : p ∈ [a, b]) : p = a ∨ p = b := (List.mem_cons.mp h).imp_right List.mem_singleton.mp
end
inductive J01 (G0 : Heap) (L1 : Addr) (xs : List Int) (W : World) (h : Heap) : Prop
  | mk : ∀ dl vs n c2, LawJ G0 L1 [] (some (.ref dl)) c2 #[] #[] [(dl, listOf (List.toArray vs) n)] h → IntsAre vs (drawnOf xs) → J01 G0 L1 xs W h
inductive J02 (G0 : Heap) (L1 : Addr) (xs : List Int) (W : World) (h : Heap) : Prop
  | mk : ∀ dl vs n c2 nl nvs n2 nums, LawJ G0 L1 [(Str.ofString "numbers", .ref nl)] (some (.ref dl)) c2 #[] #[] [(nl, listOf (List.toArray nvs) n2), (dl, listOf (List.toArray vs) n)] h → IntsAre vs (drawnOf xs) → IntsAre nvs nums → nums.length = 5 → J02 G0 L1 xs W h
inductive J03 (G0 : Heap) (L1 : Addr) (xs : List Int) (W : World) (h : Heap) : Prop
  | mk : ∀ dl vs n c2 fl fvs n3 led nums, LawJ G0 L1 [(Str.ofString "figures", .ref fl)] (some (.ref dl)) c2 #[] #[] ((fl, listOf (List.toArray fvs) n3) :: (dl, listOf (List.toArray vs) n) :: led) h → IntsAre vs (drawnOf xs) → nums.length = 5 → Paired (FigL led) fvs (figsOf nums 5) → J03 G0 L1 xs W h
inductive J04 (G0 : Heap) (L1 : Addr) (xs : List Int) (W : World) (h : Heap) : Prop
  | mk : ∀ dl vs n c2 fl fvs n3 rl rvs n4 led nums, LawJ G0 L1 [(Str.ofString "figures", .ref fl), (Str.ofString "rows", .ref rl)] (some (.ref dl)) c2 #[] #[] ((rl, listOf (List.toArray rvs) n4) :: (fl, listOf (List.toArray fvs) n3) :: (dl, listOf (List.toArray vs) n) :: led) h → IntsAre vs (drawnOf xs) → nums.length = 5 → Paired (FigL led) fvs (figsOf nums 5) → Paired (RowL led) rvs (figsOf nums 5) → J04 G0 L1 xs W h
inductive J05 (G0 : Heap) (L1 : Addr) (xs : List Int) (W : World) (h : Heap) : Prop
  | mk : ∀ dl vs n c2 fl fvs n3 rl rvs n4 kl kvs n5 z led nums, LawJ G0 L1 [(Str.ofString "figures", .ref fl), (Str.ofString "rows", .ref rl), (Str.ofString "keys", .ref kl)] (some (.ref dl)) c2 #[] #[] ((kl, listOf (List.toArray kvs) n5) :: (rl, listOf (List.toArray rvs) n4) :: (fl, listOf (List.toArray fvs) n3) :: (dl, listOf (List.toArray vs) n) :: led) h → nums.length = 5 → Paired (FigL led) fvs (figsOf nums 5) → Paired (RowL led) rvs (figsOf nums 5) → Paired (KeyL led) kvs (keysOf z) → J05 G0 L1 xs W h
inductive J06 (G0 : Heap) (L1 : Addr) (xs : List Int) (W : World) (h : Heap) : Prop
  | mk : ∀ fl fvs n3 kl kvs n5 z c1 c2 p9 p2 led nums w tw, LawJ G0 L1 [(Str.ofString "figures", .ref fl), (Str.ofString "keys", .ref kl), (Str.ofString "word", .str (toS w) tw)] c1 c2 p9 p2 ((kl, listOf (List.toArray kvs) n5) :: (fl, listOf (List.toArray fvs) n3) :: led) h → nums.length = 5 → Paired (FigL led) fvs (figsOf nums 5) → Paired (KeyL led) kvs (keysOf z) → w.Perm abN → dueS (keysOf z) (figsOf nums 5) = toS w → J06 G0 L1 xs W h
inductive J07 (G0 : Heap) (L1 : Addr) (xs : List Int) (W : World) (h : Heap) : Prop
  | mk : ∀ c1 c2 p9 p2 wd tw, LawJ G0 L1 [(Str.ofString "word", .str (toS wd) tw)] c1 c2 p9 p2 [] h → wd.Perm abN → J07 G0 L1 xs W h
inductive J08 (G0 : Heap) (L1 : Addr) (xs : List Int) (W : World) (h : Heap) : Prop
  | mk : ∀ c1 c2 p9 p2 wd tw cl cvs n1 led, LawJ G0 L1 [(Str.ofString "word", .str (toS wd) tw), (Str.ofString "cuts", .ref cl)] c1 c2 p9 p2 ((cl, listOf (List.toArray cvs) n1) :: led) h → wd.Perm abN → Paired (CutL led) cvs cutsList → J08 G0 L1 xs W h
inductive J09 (G0 : Heap) (L1 : Addr) (xs : List Int) (W : World) (h : Heap) : Prop
  | mk : ∀ c1 c2 p9 p2 wd tw cl cvs n1 sl svs n2 led, LawJ G0 L1 [(Str.ofString "word", .str (toS wd) tw), (Str.ofString "cuts", .ref cl), (Str.ofString "steps", .ref sl)] c1 c2 p9 p2 ((sl, listOf (List.toArray svs) n2) :: (cl, listOf (List.toArray cvs) n1) :: led) h → wd.Perm abN → Paired (CutL led) cvs cutsList → StrsAre svs (stepsOf (toS wd)) → J09 G0 L1 xs W h
inductive J10 (G0 : Heap) (L1 : Addr) (xs : List Int) (W : World) (h : Heap) : Prop
  | mk : ∀ c1 c2 p9 p2 wd tw sl svs n2 nd led, LawJ G0 L1 [(Str.ofString "word", .str (toS wd) tw), (Str.ofString "steps", .ref sl), (Str.ofString "near", .ref nd)] c1 c2 p9 p2 ((sl, listOf (List.toArray svs) n2) :: led) h → wd.Perm abN → StrsAre svs (stepsOf (toS wd)) → DictL W led nd (ones (stepsOf (Str.ofString "abcde"))) → J10 G0 L1 xs W h
inductive J11 (G0 : Heap) (L1 : Addr) (xs : List Int) (W : World) (h : Heap) : Prop
  | mk : ∀ c1 c2 p9 p2 wd tw sl svs n2 nd fd led, LawJ G0 L1 [(Str.ofString "word", .str (toS wd) tw), (Str.ofString "steps", .ref sl), (Str.ofString "near", .ref nd), (Str.ofString "far", .ref fd)] c1 c2 p9 p2 ((sl, listOf (List.toArray svs) n2) :: led) h → wd.Perm abN → StrsAre svs (stepsOf (toS wd)) → DictL W led nd (ones (stepsOf (Str.ofString "abcde"))) → DictL W led fd (ones (stepsOf (toS wd))) → J11 G0 L1 xs W h
inductive J12 (G0 : Heap) (L1 : Addr) (xs : List Int) (W : World) (h : Heap) : Prop
  | mk : ∀ c1 bd p9 p2 wd tw sl svs n2 nd fd led, LawJ G0 L1 [(Str.ofString "word", .str (toS wd) tw), (Str.ofString "steps", .ref sl), (Str.ofString "near", .ref nd), (Str.ofString "far", .ref fd)] c1 (some (.ref bd)) p9 p2 ((sl, listOf (List.toArray svs) n2) :: led) h → wd.Perm abN → StrsAre svs (stepsOf (toS wd)) → DictL W led nd (ones (stepsOf (Str.ofString "abcde"))) → DictL W led fd (ones (stepsOf (toS wd))) → DictL W led bd (bothT wd) → J12 G0 L1 xs W h
inductive J13 (G0 : Heap) (L1 : Addr) (xs : List Int) (W : World) (h : Heap) : Prop
  | mk : ∀ c1 bd p9 p2 wd tw sl svs n2 led, LawJ G0 L1 [(Str.ofString "word", .str (toS wd) tw), (Str.ofString "steps", .ref sl)] c1 (some (.ref bd)) p9 p2 ((sl, listOf (List.toArray svs) n2) :: led) h → wd.Perm abN → StrsAre svs (stepsOf (toS wd)) → DictL W led bd (bothT wd) → J13 G0 L1 xs W h
inductive J14 (G0 : Heap) (L1 : Addr) (xs : List Int) (W : World) (h : Heap) : Prop
  | mk : ∀ c1 bd p9 p2 wd tw sl svs n2 led, LawJ G0 L1 [(Str.ofString "word", .str (toS wd) tw), (Str.ofString "steps", .ref sl)] c1 (some (.ref bd)) p9 p2 ((sl, listOf (List.toArray svs) n2) :: led) h → wd.Perm abN → StrsAre svs (stepsOf (toS wd)) → DictL W led bd (bothT wd) → J14 G0 L1 xs W h
end
section
example : True := by
  k_with_none
  k_with "LeaveF" => (refine leaveF_ (by k_asm) ?_; intro kk; (try dsimp only))
  k_with "Shut" => (refine shut (by assumption) ?_; (try dsimp only))
  k_with "execs cons" => (refine shutX ?_; intro tX PX hPX)
  k_with "exec For Name Call cons nil" => (k_here; refine held ?_)
  k_with "exec For Tuple Call cons nil" => (k_here; refine held ?_)
  k_with "exec For Name Name cons nil" => (k_here; refine held ?_)
  k_with "exec For Tuple Name cons nil" => (k_here; refine held ?_)
  k_with "exec While" => (k_here; refine held ?_)
  k_with "eval Name" => (k_here; (refine' wpAny_Name (wpAny_loadName_local rfl rfl (ns_led ?nN ?nM ?nF) ?nv ?_) rfl); (case nF => assumption); (case nN => k_asm); (case nM => k_mem); (case nv => exact rfl))
  k_with "eval ListComp" => (k_here; refine held ?_)
  k_with "newTuple" => (k_here; k_dflt (refine' newTuple_U ?F ?N ?U ?_ ?z; (case F => k_asm); (case N => k_asm); (case U => assumption); (case z => kmk_size)); intro D' h' F' N' l1 U'; (try k_lt l1))
  k_with "subscriptTail Name Slice ref ref" => (k_here; refine held ?_)
  k_with "call ref" => (k_here; (fail_if_success (with_reducible show wpAny _ _ (call (Value.ref 72) _ _) _ _ _)); refine held ?_)
  k_with "call builtin:len" => (k_here; refine held ?_)
  k_with "isTrue Compare" => (k_here; refine wpAny_isTrue_Compare1 ?_)
  k_with "exec If" => (k_here; refine wpAny_If ?_)
  trivial
local macro_rules | `(tactic| k_all) => `(tactic| first | exact off1 (by assumption) | exact off2 (by assumption))
example : True := by
  k_with_none
  k_with "LeaveF" => (refine leaveF_ (by k_asm) ?_; intro kk; (try dsimp only))
  k_with "Shut" => (refine shut (by assumption) ?_; (try dsimp only))
  k_with "execs cons" => (refine shutX ?_; intro tX PX hPX)
  k_with "exec For Name Call cons nil" => (k_here; refine held ?_)
  k_with "exec For Tuple Call cons nil" => (k_here; refine held ?_)
  k_with "exec For Name Name cons nil" => (k_here; refine held ?_)
  k_with "exec For Tuple Name cons nil" => (k_here; refine held ?_)
  k_with "exec While" => (k_here; refine held ?_)
  k_with "eval Name" => (k_here; (refine' wpAny_Name (wpAny_loadName_local rfl rfl (ns_led ?nN ?nM ?nF) ?nv ?_) rfl); (case nF => assumption); (case nN => k_asm); (case nM => k_mem); (case nv => exact rfl))
  k_with "eval ListComp" => (k_here; refine held ?_)
  k_with "newTuple" => (k_here; k_dflt (refine' newTuple_U ?F ?N ?U ?_ ?z; (case F => k_asm); (case N => k_asm); (case U => assumption); (case z => kmk_size)); intro D' h' F' N' l1 U'; (try k_lt l1))
  k_with "subscriptTail Name Slice ref ref" => (k_here; refine held ?_)
  k_with "call ref" => (k_here; (fail_if_success (with_reducible show wpAny _ _ (call (Value.ref 72) _ _) _ _ _)); refine held ?_)
  k_with "call builtin:len" => (k_here; refine held ?_)
  k_with "isTrue Compare" => (k_here; refine wpAny_isTrue_Compare1 ?_)
  k_with "exec If" => (k_here; refine wpAny_If ?_)
  k_with "compareOp NotEq ref ref" => (k_here; refine held ?_)
  trivial
set_option maxHeartbeats 64000000 in
theorem law_walk : PySem.Challenge.rw_wf0030_01.Holds := hd (by
  k_go0
  (all_goals try k_fold)
  dsimp only at *
  generalize ghostOf _ _ = G0 at *
  rename Fr _ _ _ _ => F1
  rename News _ _ _ _ => N1
  rename Heap.IsList G0 _ _ => hsc
  rename IntsAre _ _ => hints
  rename (¬ ((63 : Nat) : Int) < _) => hlen
  rename (109 < _ ∧ _) => hl0
  rename CodeHd G0 106 102 => hc2
  rename CodeHd G0 113 109 => hc1
  rename Frag.In _ G0 => hK0
  obtain ⟨W, hW⟩ := world_name hK0
  subst hW
  obtain ⟨L1, hL1⟩ := fr_name F1
  simp only [← hL1] at F1 N1 hl0 ⊢
  obtain ⟨xs, hxs⟩ := ints_name hints
  rw [← hxs] at hlen hints
  obtain ⟨m1, F1, sc, svs, hsc, hints, o1, o2, v2, N1, hd1, hd2, hm1⟩ : ∃ m1, Fr G0 L1 _ m1 ∧ (Ex2 fun sc svs => Al3 (G0.IsList sc (List.toArray svs)) (IntsAre svs xs) ((Ex3 fun o1 o2 v2 => Al4 (News G0 L1 _ [(L1 + 1 + 1, o2), (L1 + 1, o1), (109, tabObj #[]), (102, tabObj #[])]) ((∃ v1, o1.data = .cell v1)) (o2.data = .cell v2) (AllAt m1 [(Str.ofString "script", .ref sc)])))) :=
    ⟨_, F1, _, _, hsc, hints, _, _, _, N1, ⟨_, by assumption⟩, by assumption, rfl, trivial⟩
  have F1 := fr_over F1 _ hm1
  dsimp only [over] at F1
  refine shutQ ?_
  intro PL EL hPL
  refine genS ?_
  intro gn dn on hgn hdn hon
  refine stepS (J01 G0 L1 xs W) ?s1 fun h tk hj => ?_
  case s1 =>
    intro Pj hPj
    k_steps
    refine kept_of ?_
    refine ListComp_turns (cl := []) (RestF (xs.take 20)) (fun _ _ _ _ _ _ f => f) (by with_unfolding_all rfl) (by decide) rfl (by decide) ?_ (by intro _; rfl)
    k_steps
    refine kept_of ?_
    have hsl := hints.length
    refine kmk_slice_ints F1 N1 (hsc.at fun o e => F1.keep _ _ e) (by kmk_part) (by kmk_part) hints (kmk_upto hints (by decide)) rfl (fun D ws h' F' N' l1 hI' _ _ => ?_) (by with_unfolding_all rfl) (by kmk_pure) (by rw [List.size_toArray, hsl, sizeLine_eq]; omega)
    k_lt l1
    have hwl := hI'.length
    refine lsrc_list rfl ⟨_, (N' _ (.head _)).1, rfl, _, rfl⟩ (by rw [hwl, List.length_take, sizeLine_eq]; exact Nat.le_trans (Nat.min_le_left _ _) (by decide)) ?turn ?fin
    case turn =>
      intro C E' i v h2 tk2 m2 hC hv hn hk
      obtain ⟨x, t, hx, rfl⟩ := intsAre_get hI' hv
      refine wpAny_assign_Name (wpAny_storeName_local rfl hn (fun h3 hn3 hs3 => ?_) rfl)
      have up : ∀ b o, Heap.get? _ b = some o → h3.get? b = some o := fun b o e => hs3.extBut b o (Nat.ne_of_lt (Nat.lt_trans (Heap.lt_size e) hC)) (hk b o e)
      obtain ⟨oC, F5, N5, nC⟩ := comp_led F' N' up hC hn3
      refine wpAny_tests_nil ?_
      rw [if_pos rfl]
      k_steps
      exact ⟨⟨x, _, hx, rfl⟩, h3, _, _, rfl, hn3, fun b o hb e => hs3.extBut b o hb e⟩
    case fin =>
      intro s₂ wr ok
      refine finE ok ?_
      intro D2 C h₃ tk₃ vs3 hDn hDs hDC hpl g hk3
      rw [show ws.length = (xs.take 20).length from hwl] at g
      have hin := intsF_list (f := fun x => x.fmod (10 ^ 6)) (F := RestF (xs.take 20)) (fun _ _ _ _ f => f) g
      rw [List.take_length] at hin
      obtain ⟨nD, hoD⟩ := hpl
      have hD2 := Nat.lt_of_lt_of_le (Heap.lt_size (N' _ (.tail _ (.head _))).1) hDs
      k_lt2 hD2
      have F3 := fr_up F' hk3
      have N3 := news_cons hoD (Nat.le_trans F'.above (Nat.le_trans (Nat.le_of_lt F'.ns.lt) hDs)) (Nat.ne_of_gt (Nat.lt_of_lt_of_le F'.ns.lt hDs)) (news_up N' hk3)
      obtain ⟨v1, hd1⟩ := hd1
      clear F' N'
      try dsimp only
      k_steps
      rename Fr _ _ _ _ => F9
      rename News _ _ _ _ => N9
      exact StepD.mk _ _ ⟨D2, vs3, nD, v2, law_end F9 N9 (by k_mem) (by k_mem) (by k_mem) (by k_mem) (fun p hp => by rw [List.mem_singleton.mp hp]; k_mem) (by assumption) hd2 (fun p hp => by rw [List.mem_singleton.mp hp]; exact off_lt hl0 hD2) trivial, hin⟩
  obtain ⟨dl, dvs, n1, c2, ⟨m, o1, o2, F1, N1, hd1, hd2, hab, hm⟩, hdr⟩ := hj
  refine stepS (J02 G0 L1 xs W) ?s2 fun h tk hj => ?_
  case s2 =>
    intro Pj hPj
    refine Assign_ListComp_turns (cl := [("drawn", L1 + 1)]) AnyInt (fun _ _ _ _ _ _ f => f) (by with_unfolding_all rfl) (by with_unfolding_all rfl) (by decide) rfl (by decide) rfl rfl ?_ (by intro _; rfl)
    k_steps
    rename Fr _ _ _ _ => F2
    rename News _ _ _ _ => N2
    refine lsrc_enum rfl ⟨_, (N2 _ (.head _)).1, rfl, _, rfl⟩ (by rw [sizeLine_eq]; simp) ?turn ?fin
    case turn =>
      intro C E' i v T t h2 tk2 m2 hC hv hT hn hk
      obtain ⟨z, tz, _, rfl⟩ := intsAre_get (.cons _ _ (.cons _ _ (.cons _ _ (.cons _ _ (.cons _ _ .nil))))) hv
      refine kcp_assign rfl hT rfl rfl rfl hn fun h3 tk3 hn3 hk3 => ?_
      have up : ∀ b o, Heap.get? _ b = some o → h3.get? b = some o := fun b o e => hk3 b o (Nat.ne_of_lt (Nat.lt_trans (Heap.lt_size e) hC)) (hk b o e)
      have hLC : L1 < C := Nat.lt_trans F2.ns.lt hC
      have N5 := news_up N2 up
      have F0 : Fr G0 C h3 _ := fr_comp hn3 (fun b o e => up b o (F2.keep b o e)) (Nat.le_trans F2.above (Nat.le_of_lt hLC))
      have N0 : News G0 C h3 ((L1 + 1, o1) :: (dl, listOf (List.toArray dvs) n1) :: allNews G0 C h3) := by
        have h1 := N2 (L1 + 1, o1) (by k_mem)
        have h2 := N2 (dl, listOf (List.toArray dvs) n1) (by k_mem)
        intro p hp
        rcases List.mem_cons.mp hp with rfl | hp
        · exact ⟨up _ _ h1.1, Nat.ne_of_lt (Nat.lt_trans (Heap.lt_size h1.1) hC), h1.2.2⟩
        rcases List.mem_cons.mp hp with rfl | hp
        · exact ⟨up _ _ h2.1, Nat.ne_of_lt (Nat.lt_trans (Heap.lt_size h2.1) hC), h2.2.2⟩
        · exact all_news p hp
      clear F2 N2 N5
      refine wpAny_tests_nil ?_
      rw [if_pos rfl]
      have F6 := F0
      k_steps
      try any_goals first | exact (0 : Addr) | exact Str.empty | exact Value.none | exact ([] : List (Str × Addr))
      refine kept_of ?_
      obtain ⟨ms, ws, ew, hms, hwl⟩ := ints_pick hdr (some (i : Int)) none (some 5)
      refine slice_list3 F6 N0 (N0.isList (by k_mem)) (IsPart.int _ _) IsPart.none (IsPart.int _ _) (by decide) (fun h' F7 N7 => ?_) (by with_unfolding_all rfl) (by kmk_pure) (by rw [List.size_toArray, hdr.length]; unfold drawnOf; rw [List.length_map, List.length_take, sizeLine_eq]; omega)
      rw [ew] at N7
      k_steps
      try any_goals first | exact (0 : Addr) | exact Str.empty | exact Value.none | exact ([] : List (Str × Addr))
      rename Fr _ _ _ _ => F8
      rename News _ _ _ _ => N8
      exact ⟨⟨_, _, rfl⟩, _, _, _, rfl, F8.ns, fun b o hb e => full_keep F0 F8 N8 (fun p hp => by repeat first | exact hp | refine List.Mem.tail _ ?_) b o hb (hk3 b o hb e)⟩
    case fin =>
      intro s₂ wr ok
      refine finA ok F2.ns ?_
      intro D C h' tk vs3 hDn hDs hDC hpl g hns hk
      obtain ⟨nums, hnl, hnums⟩ := anyInt_list g
      obtain ⟨nD, hoD⟩ := hpl
      have hD2 := Nat.lt_of_lt_of_le (Heap.lt_size (N2 (L1 + 1 + 1, o2) (by k_mem)).1) hDs
      have F9 := asg_fr F2 hns hk
      have N9 := news_hd (asg_new F2 hoD hDs) (asg_news N2 hk)
      refine shut hPj ?_
      refine StepD.mk _ _ ⟨dl, dvs, n1, c2, D, vs3, nD, nums, law_end F9 N9 (by k_mem) (by k_mem) (by k_mem) (by k_mem) (fun p hp => ?_) hd1 hd2 (fun p hp => ?_) ⟨rfl, trivial⟩, hdr, hnums, hnl⟩
      · rcases mn2 hp with rfl | rfl <;> k_mem
      · rcases mn2 hp with rfl | rfl
        · exact off_lt hl0 hD2
        · exact hab _ (by k_mem)
  obtain ⟨dl, dvs, n1, c2, nl, nvs, n2, nums, ⟨m, o1, o2, F1, N1, hd1, hd2, hab, hm⟩, hdr, hnums, hnl⟩ := hj
  have F1 := fr_over F1 _ hm
  dsimp only [over] at F1
  refine stepS (J03 G0 L1 xs W) ?s3 fun h tk hj => ?_
  case s3 =>
    intro Pj hPj
    have hvl := hnums.length
    refine Assign_ListComp_turns (cl := []) (FigF nums) ?stab (by with_unfolding_all rfl) (by with_unfolding_all rfl) (by decide) rfl (by decide) rfl rfl ?_ (by intro _; rfl)
    case stab =>
      rintro C i o h h' k ⟨T, z, t1, t2, t3, t4, hz, ho, hT, hg⟩
      exact ⟨T, z, t1, t2, t3, t4, hz, ho, hT, k _ _ hT hg⟩
    k_steps
    rename Fr _ _ _ _ => F2
    rename News _ _ _ _ => N2
    refine lsrc_enum rfl ⟨_, (N2 (nl, listOf (List.toArray nvs) n2) (by k_mem)).1, rfl, _, rfl⟩ (by rw [hvl, hnl, sizeLine_eq]; omega) ?turn ?fin
    case turn =>
      intro C E' i v T t h2 tk2 m2 hC hv hT hn hk
      obtain ⟨z, tz, hz, rfl⟩ := intsAre_get hnums hv
      refine kcp_assign rfl hT rfl rfl rfl hn fun h3 tk3 hn3 hk3 => ?_
      have up : ∀ b o, Heap.get? _ b = some o → h3.get? b = some o := fun b o e => hk3 b o (Nat.ne_of_lt (Nat.lt_trans (Heap.lt_size e) hC)) (hk b o e)
      obtain ⟨oC, F5, N5, nC⟩ := comp_led F2 N2 up hC hn3
      clear F2 N2
      have U0 : Upk h3 h3 := fun _ _ e => e
      refine wpAny_tests_nil ?_
      rw [if_pos rfl]
      k_steps
      rename News _ _ _ _ => N6
      rename Upk _ _ => U6
      rename (_ < _ ∧ _) => ll
      exact ⟨⟨_, z, _, _, _, _, hz, rfl, ll.1, (N6 _ (.head _)).1⟩, _, _, _, rfl, ns_led N6 (by k_mem) nC, fun b o hb e => U6 b o (hk3 b o hb e)⟩
    case fin =>
      intro s₂ wr ok
      refine finA ok F2.ns ?_
      intro D C h' tk vs3 hDn hDs hDC hpl g hns hk
      obtain ⟨led, hled, hfigs⟩ := fig_led g
      rw [hvl, hnl] at hfigs
      obtain ⟨nD, hoD⟩ := hpl
      have hD2 := Nat.lt_of_lt_of_le (Heap.lt_size (N2 (L1 + 1 + 1, o2) (by k_mem)).1) hDs
      have F9 := asg_fr F2 hns hk
      have N9 := news_hd (asg_new F2 hoD hDs) (asg_news N2 hk)
      have N8 : News G0 L1 h' led := fun p hp => asg_new F2 (hled p hp).1 (Nat.le_trans hDs (Nat.le_of_lt (Nat.lt_trans hDC (hled p hp).2)))
      refine shut hPj ?_
      refine StepD.mk _ _ ⟨dl, dvs, n1, c2, D, vs3, nD, led, nums, law_end F9 (N8.append N9) (List.mem_append_right _ (by k_mem)) (List.mem_append_right _ (by k_mem)) (List.mem_append_right _ (by k_mem)) (List.mem_append_right _ (by k_mem)) (fun p hp => ?_) hd1 hd2 (fun p hp => ?_) ⟨rfl, trivial⟩, hdr, hnl, hfigs⟩
      · rcases List.mem_cons.mp hp with rfl | hp
        · exact List.mem_append_right _ (by k_mem)
        rcases List.mem_cons.mp hp with rfl | hp
        · exact List.mem_append_right _ (by k_mem)
        exact List.mem_append_left _ hp
      · rcases List.mem_cons.mp hp with rfl | hp
        · exact off_lt hl0 hD2
        rcases List.mem_cons.mp hp with rfl | hp
        · exact hab _ (by k_mem)
        exact off_lt hl0 (Nat.lt_trans hD2 (Nat.lt_trans hDC (hled p hp).2))
  obtain ⟨dl, dvs, n1, c2, fl, fvs, n3, led, nums, ⟨m, o1, o2, F1, N1, hd1, hd2, hab, hm⟩, hdr, hnl, hfigs⟩ := hj
  have F1 := fr_over F1 _ hm
  dsimp only [over] at F1
  refine stepS (J04 G0 L1 xs W) ?s4 fun h tk hj => ?_
  case s4 =>
    intro Pj hPj
    have hvl := hfigs.length
    have hfl : (figsOf nums 5).length = 5 := by unfold figsOf; rw [List.length_mapIdx, List.length_take, hnl]; rfl
    refine Assign_ListComp_turns (cl := []) (RowF (figsOf nums 5)) ?stab (by with_unfolding_all rfl) (by with_unfolding_all rfl) (by decide) rfl (by decide) rfl rfl ?_ (by intro _; rfl)
    case stab =>
      rintro C i o h h' k ⟨T, z, t1, t2, t3, t4, hz, ho, hT, hg⟩
      exact ⟨T, z, t1, t2, t3, t4, hz, ho, hT, k _ _ hT hg⟩
    k_steps
    rename Fr _ _ _ _ => F2
    rename News _ _ _ _ => N2
    refine lsrc_list rfl ⟨_, (N2 (fl, listOf (List.toArray fvs) n3) (by k_mem)).1, rfl, _, rfl⟩ (by rw [hvl, hfl, sizeLine_eq]; omega) ?turn ?fin
    case turn =>
      intro C E' i v h2 tk2 m2 hC hv hn hk
      obtain ⟨⟨a, b, c, d⟩, hq, T, t1, t2, t3, t4, rfl, hTm⟩ := paired_get hfigs hv
      have hT : IsTup h2 T #[.int a t1, .int b t2, .int c t3, .int d t4] := ⟨_, hk _ _ (N2 _ (List.mem_cons_of_mem _ (List.mem_cons_of_mem _ (List.mem_cons_of_mem _ (List.mem_cons_of_mem _ (List.mem_cons_of_mem _ (List.mem_cons_of_mem _ hTm))))))).1, rfl, _, rfl⟩
      refine assign4 rfl hT rfl rfl rfl rfl rfl hn fun h3 tk3 hn3 hk3 => ?_
      have up : ∀ b o, Heap.get? _ b = some o → h3.get? b = some o := fun b o e => hk3 b o (Nat.ne_of_lt (Nat.lt_trans (Heap.lt_size e) hC)) (hk b o e)
      obtain ⟨oC, F5, N5, nC⟩ := comp_led F2 N2 up hC hn3
      clear F2 N2
      have U0 : Upk h3 h3 := fun _ _ e => e
      refine wpAny_tests_nil ?_
      rw [if_pos rfl]
      have htwo : b = 0 ∨ b = 1 ∨ b = 2 := figs_two (a, b, c, d) (List.mem_of_getElem? hq)
      rcases htwo with rfl | rfl | rfl
      all_goals
        k_steps
        rename News _ _ _ _ => N6
        rename Upk _ _ => U6
        rename (_ < _ ∧ _) => ll
        exact ⟨⟨_, _, _, _, _, _, hq, rfl, ll.2.1, (N6 _ (.head _)).1⟩, _, _, _, rfl, ns_led N6 (by k_mem) nC, fun b o hb e => U6 b o (hk3 b o hb e)⟩
    case fin =>
      intro s₂ wr ok
      refine finA ok F2.ns ?_
      intro D C h' tk vs3 hDn hDs hDC hpl g hns hk
      obtain ⟨led2, hled, hrows⟩ := row_led g
      rw [hvl, List.take_length] at hrows
      obtain ⟨nD, hoD⟩ := hpl
      have hD2 := Nat.lt_of_lt_of_le (Heap.lt_size (N2 (L1 + 1 + 1, o2) (by k_mem)).1) hDs
      have F9 := asg_fr F2 hns hk
      have N9 := news_hd (asg_new F2 hoD hDs) (asg_news N2 hk)
      have N8 : News G0 L1 h' led2 := fun p hp => asg_new F2 (hled p hp).1 (Nat.le_trans hDs (Nat.le_of_lt (Nat.lt_trans hDC (hled p hp).2)))
      refine shut hPj ?_
      refine StepD.mk _ _ ⟨dl, dvs, n1, c2, fl, fvs, n3, D, vs3, nD, led2 ++ led, nums, law_end F9 (N8.append N9) (List.mem_append_right _ (by k_mem)) (List.mem_append_right _ (by k_mem)) (List.mem_append_right _ (by k_mem)) (List.mem_append_right _ (by k_mem)) (fun p hp => ?_) hd1 hd2 (fun p hp => ?_) ⟨rfl, rfl, trivial⟩, hdr, hnl, FigL.up (fun p hp => List.mem_append_right _ hp) hfigs, RowL.up (fun p hp => List.mem_append_left _ hp) hrows⟩
      · rcases mc3 hp with h | h | h | h
        · rw [h]; exact List.mem_append_right _ (by k_mem)
        · rw [h]; exact List.mem_append_right _ (by k_mem)
        · rw [h]; exact List.mem_append_right _ (by k_mem)
        · rcases List.mem_append.mp h with h | h
          · exact List.mem_append_left _ h
          · exact List.mem_append_right _ (by repeat first | exact h | refine List.Mem.tail _ ?_)
      · rcases List.mem_cons.mp hp with rfl | hp
        · exact off_lt hl0 hD2
        rcases List.mem_cons.mp hp with rfl | hp
        · exact hab _ (by k_mem)
        rcases List.mem_cons.mp hp with rfl | hp
        · exact hab _ (by k_mem)
        rcases List.mem_append.mp hp with hp | hp
        · exact off_lt hl0 (Nat.lt_trans hD2 (Nat.lt_trans hDC (hled p hp).2))
        · exact hab p (by repeat first | exact hp | refine List.Mem.tail _ ?_)
  obtain ⟨dl, dvs, n1, c2, fl, fvs, n3, rl, rvs, n4, led, nums, ⟨m, o1, o2, F1, N1, hd1, hd2, hab, hm⟩, hdr, hnl, hfigs, hrows⟩ := hj
  have F1 := fr_over F1 _ hm
  dsimp only [over] at F1
  refine stepS (J05 G0 L1 xs W) ?s5 fun h tk hj => ?_
  case s5 =>
    intro Pj hPj
    have hdl := hdr.length
    have hbd := drawn_bd xs
    k_steps
    refine kept_of ?_
    refine Calls.call_len_list (N1.isList (a := dl) (items := List.toArray dvs) (by k_mem)) (by rw [List.size_toArray, hdl]; omega) ?_
    rw [List.size_toArray, hdl]
    k_steps
    refine kept_of ?_
    rename Fr _ _ _ _ => F2
    rename News _ _ _ _ => N2
    refine PCall.use (keys_spec _ _ (key_bd hbd).1 (key_bd hbd).2) (by assumption) F2 N2 (by assumption) (by assumption) (by first | exact rfl | assumption) (by first | exact un1 (by assumption) (by decide) | exact un2 (by assumption) (by decide) | exact un3 (by assumption) (by decide) | exact un0 (by assumption) (by decide) | ktr_room) (by first | exact un1 (by assumption) (by decide) | exact un2 (by assumption) (by decide) | exact un3 (by assumption) (by decide) | exact un0 (by assumption) (by decide) | ktr_units) trivial fun v9 h9 t9 k9 p9 F9 N9 => ?_
    obtain ⟨kl, kled, kvs, kc, rfl, hkled, hkm, hkeys⟩ := p9
    have hoff : Off L1 kled := fun p hp => new_off (hkled p hp) N2 (by k_mem) (by k_mem) (by k_mem) (by k_mem)
    have N8 := N9.append (new_news F2 hkled)
    dsimp only [List.cons_append] at N8
    clear N9
    try dsimp only
    k_steps
    rename Fr _ _ _ _ => F10
    rename News _ _ _ _ => N10
    refine StepD.mk _ _ ⟨dl, dvs, n1, c2, fl, fvs, n3, rl, rvs, n4, kl, kvs, kc, _, led ++ kled, nums, law_end F10 N10 (by k_mem) (by k_mem) (by k_mem) (by k_mem) (fun p hp => ?_) hd1 hd2 (fun p hp => ?_) ⟨rfl, rfl, rfl, trivial⟩, hnl, FigL.up (fun p hp => List.mem_append_left _ hp) hfigs, RowL.up (fun p hp => List.mem_append_left _ hp) hrows, keyL_up (fun p hp => List.mem_append_right _ hp) hkeys⟩
    · rcases mc4 hp with h | h | h | h | h
      · rw [h]; (repeat first | exact List.mem_append_right _ hkm | refine List.Mem.tail _ ?_)
      · rw [h]; k_mem
      · rw [h]; k_mem
      · rw [h]; k_mem
      · repeat first | exact h | refine List.Mem.tail _ ?_
    · rcases mc4 hp with h | h | h | h | h'
      · rw [h]; exact hoff _ hkm
      · exact hab _ (by first | (rw [h]; k_mem) | (repeat first | exact h | refine List.Mem.tail _ ?_))
      · exact hab _ (by first | (rw [h]; k_mem) | (repeat first | exact h | refine List.Mem.tail _ ?_))
      · exact hab _ (by first | (rw [h]; k_mem) | (repeat first | exact h | refine List.Mem.tail _ ?_))
      · rcases List.mem_append.mp h' with h | h
        · exact hab _ (by repeat first | exact h | refine List.Mem.tail _ ?_)
        · exact hoff _ h
  obtain ⟨dl, dvs, n1, c2, fl, fvs, n3, rl, rvs, n4, kl, kvs, n5, z, led, nums, ⟨m, o1, o2, F1, N1, hd1, hd2, hab, hm⟩, hnl, hfigs, hrows, hkeys⟩ := hj
  have F1 := fr_over F1 _ hm
  dsimp only [over] at F1
  refine stepS (J06 G0 L1 xs W) ?s6 fun h tk hj => ?_
  case s6 =>
    intro Pj hPj
    k_steps
    refine kept_of ?_
    rename (Fr G0 L1 _ _) => F2
    rename (News G0 L1 _ _) => N2
    obtain ⟨wd, hperm, hws, hds, hpl⟩ := due_word hnl z
    have hled : ∀ p ∈ led, Heap.get? _ p.1 = some p.2 := fun p hp => (N2 p (by repeat first | exact hp | refine List.Mem.tail _ ?_)).1
    have N3 : News G0 L1 _ [(109, tabObj #[]), (102, tabObj #[])] := fun p hp => N2 p (by rcases mn2 hp with h | h <;> (rw [h]; k_mem))
    refine word_spec rl _ ((figsOf nums 5).map rowV) (keysOf z) (by rw [List.length_map]; unfold figsOf; rw [List.length_mapIdx, List.length_take, hnl]; rfl) (keys_col z) hpl (by assumption) F2 N3 (by assumption) (by assumption) (by first | exact rfl | assumption) (by first | exact un1 (by assumption) (by decide) | exact un2 (by assumption) (by decide) | exact un3 (by assumption) (by decide) | exact un0 (by assumption) (by decide) | ktr_room) (by first | exact un1 (by assumption) (by decide) | exact un2 (by assumption) (by decide) | exact un3 (by assumption) (by decide) | exact un0 (by assumption) (by decide) | ktr_units) hc1 hc2
      ⟨rvs, ⟨_, (N2 (rl, listOf (List.toArray rvs) n4) (by k_mem)).1, rfl, _, rfl⟩, rows_at hled hrows⟩
      ⟨_, _, kl, (N2 _ (.head _)).1, (N2 _ (.tail _ (.head _))).1, kvs, ⟨_, (N2 (kl, listOf (List.toArray kvs) n5) (by k_mem)).1, rfl, _, rfl⟩, keys_at hled hkeys⟩ fun h' tk' t hk9 g9 g2 => ?_
    rw [hws]
    obtain ⟨p9, hp9⟩ := g9
    obtain ⟨p2, hp2⟩ := g2
    have F4 := word_fr F2 N3 hk9
    have hlow : ∀ d : Addr, L1 < d → d ≠ 109 ∧ d ≠ 102 := fun d h => ⟨Nat.ne_of_gt (Nat.lt_trans hl0.1 h), Nat.ne_of_gt (Nat.lt_trans hl0.2 h)⟩
    have N4 : News G0 L1 h' ((L1 + 1 + 1, o2) :: (L1 + 1, o1) :: (kl, listOf (List.toArray kvs) n5) :: (fl, listOf (List.toArray fvs) n3) :: led) := by
      refine word_news (fun p hp => N2 p ?_) (fun p hp => ?_) hk9
      · rcases mc4 hp with h | h | h | h | h <;> first | (rw [h]; k_mem) | (repeat first | exact h | refine List.Mem.tail _ ?_)
      · rcases mc4 hp with h | h | h | h | h
        · rw [h]; exact hlow _ (Nat.lt_succ_of_lt (Nat.lt_succ_self _))
        · rw [h]; exact hlow _ (Nat.lt_succ_self _)
        · exact (hab p (by first | (rw [h]; k_mem) | (repeat first | exact h | refine List.Mem.tail _ ?_))).2.2
        · exact (hab p (by first | (rw [h]; k_mem) | (repeat first | exact h | refine List.Mem.tail _ ?_))).2.2
        · exact (hab p (by first | (rw [h]; k_mem) | (repeat first | exact h | refine List.Mem.tail _ ?_))).2.2
    have N5 : News G0 L1 h' ((109, tabObj p9) :: (102, tabObj p2) :: (L1 + 1 + 1, o2) :: (L1 + 1, o1) :: (kl, listOf (List.toArray kvs) n5) :: (fl, listOf (List.toArray fvs) n3) :: led) :=
      news_hd ⟨hp9, (N3 _ (.head _)).2⟩ (news_hd ⟨hp2, (N3 _ (.tail _ (.head _))).2⟩ N4)
    clear F2 N2 N3 N4
    try dsimp only
    k_steps
    rename (Fr G0 L1 _ _) => F6
    rename (News G0 L1 _ _) => N6
    refine StepD.mk _ _ ⟨fl, fvs, n3, kl, kvs, n5, z, _, _, p9, p2, led, nums, wd, t, law_end F6 N6 (by k_mem) (by k_mem) (by k_mem) (by k_mem) (fun p hp => ?_) hd1 hd2 (fun p hp => ?_) ⟨rfl, rfl, rfl, trivial⟩, hnl, hfigs, hkeys, hperm, hds⟩
    · rcases mc2 hp with h | h | h <;> first | (rw [h]; k_mem) | (repeat first | exact h | refine List.Mem.tail _ ?_)
    · rcases mc2 hp with h | h | h
      all_goals exact hab p (by first | (rw [h]; k_mem) | (repeat first | exact h | refine List.Mem.tail _ ?_))
  obtain ⟨fl, fvs, n3, kl, kvs, n5, z, c1, c2, p9, p2, led, nums, wd, tw, ⟨m, o1, o2, F1, N1, hd1, hd2, hab, hm⟩, hnl, hfigs, hkeys, hperm, hds⟩ := hj
  have F1 := fr_over F1 _ hm
  dsimp only [over] at F1
  refine stepS (J07 G0 L1 xs W) ?s7 fun h tk hj => ?_
  case s7 =>
    intro Pj hPj
    k_steps
    refine kept_of ?_
    rename (Fr G0 L1 _ _) => F2
    rename (News G0 L1 _ _) => N2
    have hled : ∀ p ∈ led, Heap.get? _ p.1 = some p.2 := fun p hp => (N2 p (by repeat first | exact hp | refine List.Mem.tail _ ?_)).1
    refine PCall.use (due_spec fl kl (figsOf nums 5) (keysOf z) (by unfold figsOf; rw [List.length_mapIdx, List.length_take, hnl]; rfl) (by show 3 ≤ 100; decide) (keys_col z) (fun k hk q _ => IntMulOk.of_right (keys_bits z k hk))) (by assumption) F2 N2 (by assumption) (by assumption) (by first | exact rfl | assumption) (by first | exact un1 (by assumption) (by decide) | exact un2 (by assumption) (by decide) | exact un3 (by assumption) (by decide) | exact un0 (by assumption) (by decide) | ktr_room) (by first | exact un1 (by assumption) (by decide) | exact un2 (by assumption) (by decide) | exact un3 (by assumption) (by decide) | exact un0 (by assumption) (by decide) | ktr_units)
      ⟨⟨fvs, ⟨_, (N2 (fl, listOf (List.toArray fvs) n3) (by k_mem)).1, rfl, _, rfl⟩, figs_at hled hfigs⟩, ⟨kvs, ⟨_, (N2 (kl, listOf (List.toArray kvs) n5) (by k_mem)).1, rfl, _, rfl⟩, keys_at hled hkeys⟩⟩ fun v9 h9 t9 k9 p9' F9 N9 => ?_
    obtain ⟨td, rfl⟩ := p9'
    rw [hds]
    clear F2 N2
    try dsimp only
    k_steps
    · first
        | exact absurd rfl (by assumption)
        | (rename ((!_) = true) => hne; simp at hne)
        | (rename ((_ != _) = true) => hne; simp at hne)
        | (rename (decide _ = true) => hne; simp at hne)
    · rename (Fr G0 L1 _ _) => F6
      rename (News G0 L1 _ _) => N6
      exact StepD.mk _ _ ⟨c1, c2, p9, p2, wd, tw, law_end F6 N6 (by k_mem) (by k_mem) (by k_mem) (by k_mem) (fun p hp => by cases hp) hd1 hd2 (fun p hp => by cases hp) ⟨rfl, trivial⟩, hperm⟩
  obtain ⟨c1, c2, p9, p2, wd, tw, ⟨m, o1, o2, F1, N1, hd1, hd2, hab, hm⟩, hperm⟩ := hj
  have F1 := fr_over F1 _ hm
  dsimp only [over] at F1
  refine stepS (J08 G0 L1 xs W) ?s8 fun h tk hj => ?_
  case s8 =>
    intro Pj hPj
    k_steps
    refine kept_of ?_
    rename (Fr G0 L1 _ _) => F2
    rename (News G0 L1 _ _) => N2
    refine PCall.use cuts_spec (by assumption) F2 N2 (by assumption) (by assumption) (by first | exact rfl | assumption) (by first | exact un1 (by assumption) (by decide) | exact un2 (by assumption) (by decide) | exact un3 (by assumption) (by decide) | exact un0 (by assumption) (by decide) | ktr_room) (by first | exact un1 (by assumption) (by decide) | exact un2 (by assumption) (by decide) | exact un3 (by assumption) (by decide) | exact un0 (by assumption) (by decide) | ktr_units) trivial fun v9 h9 t9 k9 p9' F9 N9 => ?_
    obtain ⟨cl, cled, cvs, cn, rfl, hcled, hcm, hcuts⟩ := p9'
    have hoff : Off L1 cled := fun p hp => new_off (hcled p hp) N2 (by k_mem) (by k_mem) (by k_mem) (by k_mem)
    have N8 := N9.append (new_news F2 hcled)
    dsimp only [List.cons_append, List.nil_append] at N8
    clear N9
    try dsimp only
    k_steps
    rename Fr _ _ _ _ => F10
    rename News _ _ _ _ => N10
    refine StepD.mk _ _ ⟨c1, c2, p9, p2, wd, tw, cl, cvs, cn, cled, law_end F10 N10 (by k_mem) (by k_mem) (by k_mem) (by k_mem) (fun p hp => ?_) hd1 hd2 (fun p hp => ?_) ⟨rfl, rfl, trivial⟩, hperm, hcuts⟩
    · rcases List.mem_cons.mp hp with h | h
      · rw [h]; (repeat first | exact hcm | refine List.Mem.tail _ ?_)
      · repeat first | exact h | refine List.Mem.tail _ ?_
    · rcases List.mem_cons.mp hp with h | h
      · rw [h]; exact hoff _ hcm
      · exact hoff p h
  obtain ⟨c1, c2, p9, p2, wd, tw, cl, cvs, n1, led, ⟨m, o1, o2, F1, N1, hd1, hd2, hab, hm⟩, hperm, hcuts⟩ := hj
  have F1 := fr_over F1 _ hm
  dsimp only [over] at F1
  refine stepS (J09 G0 L1 xs W) ?s9 fun h tk hj => ?_
  case s9 =>
    intro Pj hPj
    k_steps
    refine kept_of ?_
    rename (Fr G0 L1 _ _) => F2
    rename (News G0 L1 _ _) => N2
    have hled : ∀ p ∈ led, Heap.get? _ p.1 = some p.2 := fun p hp => (N2 p (by repeat first | exact hp | refine List.Mem.tail _ ?_)).1
    have hcut : CutsAt _ cl cutsList := ⟨cvs, ⟨_, (N2 (cl, listOf (List.toArray cvs) n1) (by k_mem)).1, rfl, _, rfl⟩, cuts_at hled hcuts⟩
    refine PCall.use (exch_spec (toS wd) tw cl cutsList (by obtain ⟨a, b, c, d, e, rfl⟩ := five hperm; show 5 ≤ 100; decide) (by rw [cuts_len]; decide)) (by assumption) F2 N2 (by assumption) (by assumption) (by first | exact rfl | assumption) (by first | exact un1 (by assumption) (by decide) | exact un2 (by assumption) (by decide) | exact un3 (by assumption) (by decide) | exact un0 (by assumption) (by decide) | ktr_room) (by first | exact un1 (by assumption) (by decide) | exact un2 (by assumption) (by decide) | exact un3 (by assumption) (by decide) | exact un0 (by assumption) (by decide) | ktr_units) hcut fun v9 h9 t9 k9 p9' F9 N9 => ?_
    obtain ⟨sl, svs, sn, rfl, hsn, hsteps⟩ := p9'
    have hoff := new_off (L1 := L1) hsn N2 (by k_mem) (by k_mem) (by k_mem) (by k_mem)
    have N8 := news_hd (new_news (led := [(sl, listOf (List.toArray svs) sn)]) F2 (fun p hp => by rw [List.mem_singleton.mp hp]; exact hsn) _ (.head _)) N9
    clear N9
    try dsimp only
    k_steps
    rename Fr _ _ _ _ => F10
    rename News _ _ _ _ => N10
    refine StepD.mk _ _ ⟨c1, c2, p9, p2, wd, tw, cl, cvs, n1, sl, svs, sn, led, law_end F10 N10 (by k_mem) (by k_mem) (by k_mem) (by k_mem) (fun p hp => ?_) hd1 hd2 (fun p hp => ?_) ⟨rfl, rfl, rfl, trivial⟩, hperm, hcuts, hsteps⟩
    · rcases mc2 hp with h | h | h <;> first | (rw [h]; k_mem) | (repeat first | exact h | refine List.Mem.tail _ ?_)
    · rcases mc2 hp with h | h | h
      · rw [h]; exact hoff
      · exact hab p (by first | (rw [h]; k_mem) | (repeat first | exact h | refine List.Mem.tail _ ?_))
      · exact hab p (by first | (rw [h]; k_mem) | (repeat first | exact h | refine List.Mem.tail _ ?_))
  obtain ⟨c1, c2, p9, p2, wd, tw, cl, cvs, n1, sl, svs, n2, led, ⟨m, o1, o2, F1, N1, hd1, hd2, hab, hm⟩, hperm, hcuts, hsteps⟩ := hj
  have F1 := fr_over F1 _ hm
  dsimp only [over] at F1
  refine stepS (J10 G0 L1 xs W) ?s10 fun h tk hj => ?_
  case s10 =>
    intro Pj hPj
    refine Assign_DictComp_src (cl := []) (strKind PR W) (OneF (stepsOf (Str.ofString "abcde"))) (by with_unfolding_all rfl) (by with_unfolding_all rfl) (by decide) rfl (by decide) rfl rfl ?_ (by intro _; rfl)
    k_steps
    refine kept_of ?_
    rename (Fr G0 L1 _ _) => F2
    rename (News G0 L1 _ _) => N2
    have hled : ∀ p ∈ led, Heap.get? _ p.1 = some p.2 := fun p hp => (N2 p (by repeat first | exact hp | refine List.Mem.tail _ ?_)).1
    have hcut : CutsAt _ cl cutsList := ⟨cvs, ⟨_, (N2 (cl, listOf (List.toArray cvs) n1) (by k_mem)).1, rfl, _, rfl⟩, cuts_at hled hcuts⟩
    refine PCall.use (exch_spec (Str.ofString "abcde") _ cl cutsList (by decide) (by rw [cuts_len]; decide)) (by assumption) F2 N2 (by assumption) (by assumption) (by first | exact rfl | assumption) (by first | exact un1 (by assumption) (by decide) | exact un2 (by assumption) (by decide) | exact un3 (by assumption) (by decide) | exact un0 (by assumption) (by decide) | ktr_room) (by first | exact un1 (by assumption) (by decide) | exact un2 (by assumption) (by decide) | exact un3 (by assumption) (by decide) | exact un0 (by assumption) (by decide) | ktr_units) hcut fun v9 h9 t9 k9 p9' F9 N9 => ?_
    obtain ⟨nl, nvs, nn, rfl, hnn, hnear⟩ := p9'
    have hnear : StrsAre nvs (stepsOf (Str.ofString "abcde")) := hnear
    have hnvl := strsAre_length hnear
    try dsimp only
    refine' dsrc_strs (x := Str.ofString "other") ?hh ?hl hnear ?hsz ?hn ?hx ?hp ?hb ?hnm ?hv ?done
    case hh => exact rfl
    case hl => exact ⟨_, hnn.1, rfl, _, rfl⟩
    case hsz => rw [hnvl, steps_len, sizeLine_eq]; decide
    case hn => exact F9.ns
    case hb => exact rfl
    case hx => exact fun _ => rfl
    case hp => exact fun _ => rfl
    case hnm => exact fun C s' m' v Q' E' hns hm h => wpAny_Name (wpAny_loadName_local rfl rfl hns hm h) rfl
    case hv => exact fun C s' Q' E' h => wpAny_Constant_int (h _ _)
    intro D h' tk' kvs hDn hDz hdo hst hns hk
    obtain ⟨oD, hoD, hoK⟩ := Heap.dictOf_iff.mp hdo
    have F3 := asg_fr F9 hns hk
    have N3 := news_hd (asg_new F9 hoD hDz) (asg_news N9 hk)
    have hD2 := Nat.lt_of_lt_of_le (Heap.lt_size (N9 (L1 + 1 + 1, o2) (by k_mem)).1) hDz
    refine shut hPj ?_
    refine StepD.mk _ _ ⟨c1, c2, p9, p2, wd, tw, sl, svs, n2, D, (D, oD) :: led, law_end F3 N3 (by k_mem) (by k_mem) (by k_mem) (by k_mem) (fun p hp => ?_) hd1 hd2 (fun p hp => ?_) ⟨rfl, rfl, rfl, trivial⟩, hperm, hsteps, oD, kvs, not_sys hl0 (Nat.lt_of_succ_lt (Nat.lt_of_succ_lt hD2)), List.mem_cons_self .., hoK, ones_of near_nodup hst hnvl⟩
    · rcases mc2 hp with h | h | h <;> first | (rw [h]; k_mem) | (repeat first | exact h | refine List.Mem.tail _ ?_)
    · rcases mc2 hp with h | h | h
      · exact hab p (by first | (rw [h]; k_mem) | (repeat first | exact h | refine List.Mem.tail _ ?_))
      · rw [h]; exact off_lt hl0 hD2
      · exact hab p (by first | (rw [h]; k_mem) | (repeat first | exact h | refine List.Mem.tail _ ?_))
  obtain ⟨c1, c2, p9, p2, wd, tw, sl, svs, n2, nd, led, ⟨m, o1, o2, F1, N1, hd1, hd2, hab, hm⟩, hperm, hsteps, hnear⟩ := hj
  have F1 := fr_over F1 _ hm
  dsimp only [over] at F1
  refine stepS (J11 G0 L1 xs W) ?s11 fun h tk hj => ?_
  case s11 =>
    intro Pj hPj
    refine Assign_DictComp_src (cl := []) (strKind PR W) (OneF (stepsOf (toS wd))) (by with_unfolding_all rfl) (by with_unfolding_all rfl) (by decide) rfl (by decide) rfl rfl ?_ (by intro _; rfl)
    k_steps
    rename (Fr G0 L1 _ _) => F9
    rename (News G0 L1 _ _) => N9
    have hnvl := strsAre_length hsteps
    refine' dsrc_strs (x := Str.ofString "other") ?hh ?hl hsteps ?hsz ?hn ?hx ?hp ?hb ?hnm ?hv ?don11
    case hh => exact rfl
    case hl => exact N9.isList (items := List.toArray svs) (by k_mem)
    case hsz => rw [hnvl, steps_len, sizeLine_eq]; decide
    case hn => exact F9.ns
    case hb => exact rfl
    case hx => exact fun _ => rfl
    case hp => exact fun _ => rfl
    case hnm => exact fun C s' m' v Q' E' hns hm h => wpAny_Name (wpAny_loadName_local rfl rfl hns hm h) rfl
    case hv => exact fun C s' Q' E' h => wpAny_Constant_int (h _ _)
    intro D h' tk' kvs hDn hDz hdo hst hns hk
    obtain ⟨oD, hoD, hoK⟩ := Heap.dictOf_iff.mp hdo
    have F3 := asg_fr F9 hns hk
    have N3 := news_hd (asg_new F9 hoD hDz) (asg_news N9 hk)
    have hD2 := Nat.lt_of_lt_of_le (Heap.lt_size (N9 (L1 + 1 + 1, o2) (by k_mem)).1) hDz
    refine shut hPj ?_
    refine StepD.mk _ _ ⟨c1, c2, p9, p2, wd, tw, sl, svs, n2, nd, D, (D, oD) :: led, law_end F3 N3 (by k_mem) (by k_mem) (by k_mem) (by k_mem) (fun p hp => ?_) hd1 hd2 (fun p hp => ?_) ⟨rfl, rfl, rfl, rfl, trivial⟩, hperm, hsteps, hnear.up fun p hp => List.mem_cons_of_mem _ hp, oD, kvs, not_sys hl0 (Nat.lt_of_succ_lt (Nat.lt_of_succ_lt hD2)), List.mem_cons_self .., hoK, ones_of (far_nodup hperm) hst hnvl⟩
    · rcases mc2 hp with h | h | h <;> first | (rw [h]; k_mem) | (repeat first | exact h | refine List.Mem.tail _ ?_)
    · rcases mc2 hp with h | h | h
      · exact hab p (by first | (rw [h]; k_mem) | (repeat first | exact h | refine List.Mem.tail _ ?_))
      · rw [h]; exact off_lt hl0 hD2
      · exact hab p (by first | (rw [h]; k_mem) | (repeat first | exact h | refine List.Mem.tail _ ?_))
  obtain ⟨c1, c2, p9, p2, wd, tw, sl, svs, n2, nd, fd, led, ⟨m, o1, o2, F1, N1, hd1, hd2, hab, hm⟩, hperm, hsteps, hnear, hfar⟩ := hj
  have F1 := fr_over F1 _ hm
  dsimp only [over] at F1
  refine stepS (J12 G0 L1 xs W) ?s12 fun h tk hj => ?_
  case s12 =>
    intro Pj hPj
    k_steps
    refine kept_of ?_
    rename (Fr G0 L1 _ _) => F2
    rename (News G0 L1 _ _) => N2
    have hled : ∀ p ∈ led, Heap.get? _ p.1 = some p.2 := fun p hp => (N2 p (by repeat first | exact hp | refine List.Mem.tail _ ?_)).1
    refine PCall.use (addc_spec fd nd (ones (stepsOf (toS wd))) (ones (stepsOf (Str.ofString "abcde"))) (by unfold ones; rw [List.length_map, List.length_map, steps_len, steps_len]; decide)) (by assumption) F2 N2 (by assumption) (by assumption) (by first | exact rfl | assumption) (by first | exact un1 (by assumption) (by decide) | exact un2 (by assumption) (by decide) | exact un3 (by assumption) (by decide) | exact un0 (by assumption) (by decide) | ktr_room) (by first | exact un1 (by assumption) (by decide) | exact un2 (by assumption) (by decide) | exact un3 (by assumption) (by decide) | exact un0 (by assumption) (by decide) | ktr_units) ⟨dict_at hled hfar, dict_at hled hnear⟩ fun v9 h9 t9 k9 p9' F9 N9 => ?_
    obtain ⟨bd, ob, bkv, rfl, hbn, hbk, hbf, hbs⟩ := p9'
    rw [putAll_ones _ [] (fun _ _ => rfl) (far_nodup hperm), List.nil_append] at hbf
    have hoff := new_off (L1 := L1) hbn N2 (by k_mem) (by k_mem) (by k_mem) (by k_mem)
    have N8 := news_hd (new_news (led := [(bd, ob)]) F2 (fun p hp => by rw [List.mem_singleton.mp hp]; exact hbn) _ (.head _)) N9
    clear N9
    have hoff0 := hoff
    obtain ⟨hof1, hof2, _, _⟩ := hoff
    have hsl := hab (sl, listOf (List.toArray svs) n2) (List.mem_cons_self ..)
    have hofl : Off L1 led := fun p hp => hab p (List.mem_cons_of_mem _ hp)
    obtain ⟨hs1, hs2, _, _⟩ := hsl
    try dsimp only at hs1 hs2
    replace hs1 := neN hs1
    replace hs2 := neN hs2
    replace hof1 := neN hof1
    replace hof2 := neN hof2
    try dsimp only
    k_steps
    rename Fr _ _ _ _ => F10
    rename News _ _ _ _ => N10
    refine StepD.mk _ _ ⟨c1, bd, p9, p2, wd, tw, sl, svs, n2, nd, fd, (bd, ob) :: led, law_end F10 N10 (by k_mem) (by k_mem) (by k_mem) (by k_mem) (fun p hp => ?_) hd1 (by assumption) (fun p hp => ?_) ⟨rfl, rfl, rfl, rfl, trivial⟩, hperm, hsteps, hnear.up fun p hp => List.mem_cons_of_mem _ hp, hfar.up fun p hp => List.mem_cons_of_mem _ hp, ob, bkv, hbs, List.mem_cons_self .., hbk, hbf⟩
    · rcases mc2 hp with h | h | h <;> first | (rw [h]; k_mem) | (repeat first | exact h | refine List.Mem.tail _ ?_)
    · rcases mc2 hp with h | h | h
      · exact hab p (by first | (rw [h]; k_mem) | (repeat first | exact h | refine List.Mem.tail _ ?_))
      · rw [h]; exact hoff0
      · exact hab p (by first | (rw [h]; k_mem) | (repeat first | exact h | refine List.Mem.tail _ ?_))
  obtain ⟨c1, bd, p9, p2, wd, tw, sl, svs, n2, nd, fd, led, ⟨m, o1, o2, F1, N1, hd1, hd2, hab, hm⟩, hperm, hsteps, hnear, hfar, hboth⟩ := hj
  have F1 := fr_over F1 _ hm
  dsimp only [over] at F1
  refine stepS (J13 G0 L1 xs W) ?s13 fun h tk hj => ?_
  case s13 =>
    intro Pj hPj
    k_steps
    refine kept_of ?_
    refine ListComp_turns (cl := []) (ValF [35, 35, 70]) (fun _ _ _ _ _ _ f => f) (by with_unfolding_all rfl) (by decide) rfl (by decide) ?_ (by intro _; rfl)
    k_steps
    rename (Fr G0 L1 _ _) => F2
    rename (News G0 L1 _ _) => N2
    have hled : ∀ p ∈ led, Heap.get? _ p.1 = some p.2 := fun p hp => (N2 p (by repeat first | exact hp | refine List.Mem.tail _ ?_)).1
    refine lsrc_tuple (vs := [.ref fd, .ref nd, .ref bd]) rfl ⟨_, (N2 _ (.head _)).1, rfl, _, rfl⟩ (by rw [sizeLine_eq]; show 3 ≤ 16777216; decide) ?turn ?fin
    case turn =>
      intro C E' i v h2 tk2 m2 hC hv hn hk
      obtain ⟨d, c, z, rfl, hz, hdl, hsum⟩ : (Ex3 fun d c z => Al4 (v = .ref d) (([35, 35, 70] : List Int)[i]? = some z) (DictL W led d c) (sumD c = z)) := by
        have hi := (List.getElem?_eq_some_iff.mp hv).1
        match i, hi, hv with
        | 0, _, hv => cases hv; exact ⟨fd, _, 35, rfl, rfl, hfar, by rw [sum_ones, steps_len]; rfl⟩
        | 1, _, hv => cases hv; exact ⟨nd, _, 35, rfl, rfl, hnear, by rw [sum_ones, steps_len]; rfl⟩
        | 2, _, hv => cases hv; exact ⟨bd, _, 70, rfl, rfl, hboth, both_sum hperm⟩
      refine wpAny_assign_Name (wpAny_storeName_local rfl hn (fun h3 hn3 hs3 => ?_) rfl)
      have up : ∀ b o, Heap.get? _ b = some o → h3.get? b = some o := fun b o e => hs3.extBut b o (Nat.ne_of_lt (Nat.lt_trans (Heap.lt_size e) hC)) (hk b o e)
      obtain ⟨oC, F5, N5, nC⟩ := comp_led F2 N2 up hC hn3
      clear F2 N2
      refine wpAny_tests_nil ?_
      rw [if_pos rfl]
      k_steps
      refine kept_of ?_
      rename (Fr G0 L1 _ _) => F6
      rename (News G0 L1 _ _) => N6
      refine PCall.use (count_spec d c) (by assumption) F6 N6 (by assumption) (by assumption) (by first | exact rfl | assumption) (by first | exact un1 (by assumption) (by decide) | exact un2 (by assumption) (by decide) | exact un3 (by assumption) (by decide) | exact un0 (by assumption) (by decide) | ktr_room) (by first | exact un1 (by assumption) (by decide) | exact un2 (by assumption) (by decide) | exact un3 (by assumption) (by decide) | exact un0 (by assumption) (by decide) | ktr_units) (dict_at (fun p hp => up _ _ (hled p hp)) hdl) fun v9 h9 t9 k9 p9' F9 N9 => ?_
      obtain ⟨tq, rfl⟩ := p9'
      try dsimp only
      k_steps
      exact ⟨⟨z, _, hz, by rw [hsum]⟩, h9, _, _, rfl, ns_led N9 (by k_mem) nC, fun b o hb e => k9 b o (hs3.extBut b o hb e)⟩
    case fin =>
      intro s₂ wr ok
      refine finE ok ?_
      intro D C h3 tk3 vs3 hDn hDs hDC hpl g hk3
      have hin : IntsAre vs3 [35, 35, 70] := valF_list g
      obtain ⟨nD, hoD⟩ := hpl
      have F7 := fr_up F2 hk3
      have N7 := news_hd (asg_new F2 hoD hDs) (news_up N2 hk3)
      clear F2 N2
      try dsimp only
      k_steps
      refine kept_of ?_
      rename (Fr G0 L1 _ _) => F8
      rename (News G0 L1 _ _) => N8
      refine ne_intsK (N8.isList (items := List.toArray vs3) (by k_mem)) hin (N8.isList (by k_mem)) (.cons _ _ (.cons _ _ (.cons _ _ .nil))) (by units_room) ?_
      rw [decide_eq_true rfl]
      k_steps
      rename (Fr G0 L1 _ _) => F9
      rename (News G0 L1 _ _) => N9
      refine StepD.mk _ _ ⟨c1, bd, p9, p2, wd, tw, sl, svs, n2, led, law_end F9 N9 (by k_mem) (by k_mem) (by k_mem) (by k_mem) (fun p hp => ?_) hd1 hd2 (fun p hp => hab p hp) ⟨rfl, rfl, trivial⟩, hperm, hsteps, hboth⟩
      rcases mc1 hp with h | h <;> first | (rw [h]; k_mem) | (repeat first | exact h | refine List.Mem.tail _ ?_)
  obtain ⟨c1, bd, p9, p2, wd, tw, sl, svs, n2, led, ⟨m, o1, o2, F1, N1, hd1, hd2, hab, hm⟩, hperm, hsteps, hboth⟩ := hj
  have F1 := fr_over F1 _ hm
  dsimp only [over] at F1
  refine stepS (J14 G0 L1 xs W) ?s14 fun h tk hj => ?_
  case s14 =>
    intro Pj hPj
    obtain ⟨L, hL⟩ : ∃ L, L = ringsL wd := ⟨_, rfl⟩
    k_steps
    refine kept_of ?_
    refine ListComp_turns (cl := []) (ValF L) (fun _ _ _ _ _ _ f => f) (by with_unfolding_all rfl) (by decide) rfl (by decide) ?_ (by intro _; rfl)
    refine wpAny_Name (wpAny_loadName_local rfl rfl F1.ns (by rfl) ?_) rfl
    have F2 := F1
    have N2 := N1
    have hsl : svs.length = 35 := (strsAre_length hsteps).trans (steps_len _)
    refine lsrc_list rfl (N2.isList (items := List.toArray svs) (by k_mem)) (by rw [hsl, sizeLine_eq]; decide) ?turn ?fin
    case turn =>
      intro C E' i v h2 tk2 m2 hC hv hn hk
      obtain ⟨u, tu, hu, rfl, hup, hum⟩ := steps_get hperm hsteps hv
      refine wpAny_assign_Name (wpAny_storeName_local rfl hn (fun h3 hn3 hs3 => ?_) rfl)
      have up : ∀ b o, Heap.get? _ b = some o → h3.get? b = some o := fun b o e => hs3.extBut b o (Nat.ne_of_lt (Nat.lt_trans (Heap.lt_size e) hC)) (hk b o e)
      obtain ⟨oC, F5, N5, nC⟩ := comp_led F2 N2 up hC hn3
      clear F2 N2
      refine wpAny_tests_nil ?_
      rw [if_pos rfl]
      k_steps
      refine kept_of ?_
      rename (Fr G0 L1 _ _) => F6
      rename (News G0 L1 _ _) => N6
      refine PCall.use (rings_spec (toS u) tu (toS_len hup) (toS_ascii hup) _ (rings_at hup)) (by assumption) F6 N6 (by assumption) (by assumption) (by first | exact rfl | assumption) (by first | exact un1 (by assumption) (by decide) | exact un2 (by assumption) (by decide) | exact un3 (by assumption) (by decide) | exact un0 (by assumption) (by decide) | ktr_room) (by first | exact un1 (by assumption) (by decide) | exact un2 (by assumption) (by decide) | exact un3 (by assumption) (by decide) | exact un0 (by assumption) (by decide) | ktr_units) trivial fun v9 h9 t9 k9 p9' F9 N9 => ?_
      obtain ⟨tq, rfl⟩ := p9'
      try dsimp only
      k_steps
      exact ⟨⟨_, _, (hL ▸ ringsL_get hu), rfl⟩, h9, _, _, rfl, ns_led N9 (by k_mem) nC, fun b o hb e => k9 b o (hs3.extBut b o hb e)⟩
    case fin =>
      intro s₂ wr ok
      refine finE ok ?_
      intro D C h3 tk3 vs3 hDn hDs hDC hpl g hk3
      have hin : IntsAre vs3 L := by have := valF_list g; rwa [hsl, ← ringsL_len wd, ← hL, List.take_length] at this
      obtain ⟨nD, hoD⟩ := hpl
      have F7 := fr_up F2 hk3
      have N7 := news_hd (asg_new F2 hoD hDs) (news_up N2 hk3)
      clear F2 N2
      try dsimp only
      k_steps
      refine kept_of ?_
      refine ListComp_turns (cl := [("both", L1 + 1 + 1)]) (ValF L) (fun _ _ _ _ _ _ f => f) (by with_unfolding_all rfl) (by decide) rfl (by decide) ?_ (by intro _; rfl)
      rename (Fr G0 L1 _ _) => F8
      rename (News G0 L1 _ _) => N8
      refine wpAny_Name (wpAny_loadName_local rfl rfl F8.ns (by rfl) ?_) rfl
      have hled : ∀ p ∈ led, Heap.get? _ p.1 = some p.2 := fun p hp => (N8 p (by repeat first | exact hp | refine List.Mem.tail _ ?_)).1
      refine lsrc_list rfl (N8.isList (items := List.toArray svs) (by k_mem)) (by rw [hsl, sizeLine_eq]; decide) ?turn2 ?fin2
      case turn2 =>
        intro C E' i v h4 tk4 m4 hC hv hn hk
        obtain ⟨u, tu, hu, rfl, hup, hum⟩ := steps_get hperm hsteps hv
        refine wpAny_assign_Name (wpAny_storeName_local rfl hn (fun h5 hn5 hs5 => ?_) rfl)
        have up : ∀ b o, Heap.get? _ b = some o → h5.get? b = some o := fun b o e => hs5.extBut b o (Nat.ne_of_lt (Nat.lt_trans (Heap.lt_size e) hC)) (hk b o e)
        obtain ⟨oC, F5, N5, nC⟩ := comp_led F8 N8 up hC hn5
        clear F8 N8
        refine wpAny_tests_nil ?_
        rw [if_pos rfl]
        try dsimp only
        refine wpAny_IfExp ?_
        refine wpAny_isTrue_Compare1 ?_
        refine wpAny_Name (wpAny_loadName_local rfl rfl hn5 (by rfl) ?_) rfl
        refine wpAny_Constant_str ?_
        refine eq_str ?_
        refine wpAny_truthy_bool ?_
        by_cases hx : toS u = Str.ofString "abcde"
        · rw [if_pos (by rw [hx]; exact beq_self_eq_true _)]
          refine wpAny_Constant_int ?_
          have h6 : L[i]? = some 6 := by rw [hL, ringsL_get hu, rings_step hperm hum, if_pos hx]
          exact ⟨⟨6, _, h6, rfl⟩, h5, _, _, rfl, hn5, fun b o hb e => hs5.extBut b o hb e⟩
        · rw [if_neg (by intro h; exact hx (eq_of_beq h))]
          refine wpAny_BinOp ?_
          refine wpAny_Constant_int ?_
          refine wpAny_Subscript_Name (T := "dict") rfl ?_
          refine' wpAny_Name (wpAny_loadName_cell ?ka ?kb ?kc ⟨o2, (N5 (L1 + 1 + 1, o2) ?kd).1, hd2⟩ ?ke) ?kf
          case ka => exact rfl
          case kb => first | exact rfl | (with_unfolding_all rfl) | decide
          case kc => first | exact rfl | (with_unfolding_all rfl) | decide
          case kd => k_mem
          case kf => exact rfl
          refine wpAny_Name (wpAny_loadName_local rfl rfl hn5 (by rfl) ?_) rfl
          have hT : StrTab PR W h5 bd (kdpD (bothT wd)) := dict_at (fun p hp => up _ _ (hled p hp)) hboth
          refine ⟨?_, kdp_getItem hT (both_has hperm (steps_mem hperm hum)) fun t9 => ?_⟩
          · obtain ⟨lo, kvs, ⟨oo, es, ep, hg, hex, _⟩, hf⟩ := hT
            exact ⟨oo, hg, hex.1⟩
          have h6 : L[i]? = some (2 * kdpLook (bothT wd) (toS u) 0) := by rw [hL, ringsL_get hu, rings_step hperm hum, if_neg hx]
          generalize kdpLook (bothT wd) (toS u) 0 = z at h6 ⊢
          clear hin hsl hum hup hu hL hperm hsteps hboth hled hab hd1 hd2 hm hx hT
          k_steps
          exact ⟨⟨2 * z, _, h6, rfl⟩, h5, _, _, rfl, hn5, fun b o hb e => hs5.extBut b o hb e⟩
      case fin2 =>
        intro s₃ wr3 ok3
        refine finE ok3 ?_
        intro D2 C2 h6 tk6 vs6 hDn2 hDs2 hDC2 hpl2 g2 hk6
        have hin2 : IntsAre vs6 L := by have := valF_list g2; rwa [hsl, ← ringsL_len wd, ← hL, List.take_length] at this
        obtain ⟨nD2, hoD2⟩ := hpl2
        have F9 := fr_up F8 hk6
        have N9 := news_hd (asg_new F8 hoD2 hDs2) (news_up N8 hk6)
        clear F8 N8
        try dsimp only
        refine ne_intsK (N9.isList (items := List.toArray vs3) (by k_mem)) hin (N9.isList (items := List.toArray vs6) (by k_mem)) hin2 (by units_room) ?_
        rw [decide_eq_true rfl]
        clear hL hin hin2 hsl g g2
        k_steps
        refine StepD.mk _ _ ⟨c1, bd, p9, p2, wd, tw, sl, svs, n2, led, law_end F9 N9 (by k_mem) (by k_mem) (by k_mem) (by k_mem) (fun p hp => ?_) hd1 hd2 (fun p hp => hab p hp) ⟨rfl, rfl, trivial⟩, hperm, hsteps, hboth⟩
        rcases mc1 hp with h | h <;> first | (rw [h]; k_mem) | (repeat first | exact h | refine List.Mem.tail _ ?_)
  obtain ⟨c1, bd, p9, p2, wd, tw, sl, svs, n2, led, ⟨m, o1, o2, F1, N1, hd1, hd2, hab, hm⟩, hperm, hsteps, hboth⟩ := hj
  have F1 := fr_over F1 _ hm
  dsimp only [over] at F1
  have hled : ∀ p ∈ led, Heap.get? _ p.1 = some p.2 := fun p hp => (N1 p (by repeat first | exact hp | refine List.Mem.tail _ ?_)).1
  have hT := dict_at hled hboth
  k_steps
  refine kept_of ?_
  refine PCall.use (rings_spec (toS wd) tw (toS_len hperm) (toS_ascii hperm) _ (rings_at hperm)) (by assumption) F1 N1 (by assumption) (by assumption) (by first | exact rfl | assumption) (by first | exact un1 (by assumption) (by decide) | exact un2 (by assumption) (by decide) | exact un3 (by assumption) (by decide) | exact un0 (by assumption) (by decide) | ktr_room) (by first | exact un1 (by assumption) (by decide) | exact un2 (by assumption) (by decide) | exact un3 (by assumption) (by decide) | exact un0 (by assumption) (by decide) | ktr_units) trivial fun v9 h9 t9 k9 p9' F9 N9 => ?_
  obtain ⟨tq, rfl⟩ := p9'
  try dsimp only
  k_steps
  refine kept_of ?_
  have hled9 : ∀ p ∈ led, Heap.get? h9 p.1 = some p.2 := fun p hp => (N9 p (by repeat first | exact hp | refine List.Mem.tail _ ?_)).1
  refine PCall.use (fewest_spec (toS wd) tw sl bd (stepsOf (toS wd)) (bothT wd) (Nat.le_trans (Nat.le_of_eq (steps_len _)) (by decide)) (fun y hy => both_has hperm hy)) (by assumption) F9 N9 (by assumption) (by assumption) (by first | exact rfl | assumption) (by first | exact un1 (by assumption) (by decide) | exact un2 (by assumption) (by decide) | exact un3 (by assumption) (by decide) | exact un0 (by assumption) (by decide) | ktr_room) (by first | exact un1 (by assumption) (by decide) | exact un2 (by assumption) (by decide) | exact un3 (by assumption) (by decide) | exact un0 (by assumption) (by decide) | ktr_units) ⟨⟨svs, n2, (N9 (sl, listOf (List.toArray svs) n2) (by k_mem)).1, hsteps⟩, dict_at hled9 hboth⟩ fun v8 h8 t8 k8 p8' F8 N8 => ?_
  obtain ⟨tq8, rfl⟩ := p8'
  try dsimp only

  have hlaw : ((ringsN wd : Int) == 6 - 2 * fewestOf (toS wd) (stepsOf (toS wd)) (bothT wd)) = true := by rw [← fewest_at hperm]; exact beq_self_eq_true _
  k_steps
  rw [hlaw]
  k_steps
  refine ⟨Or.inl ⟨_, .bool true, [], rfl, fun _ => rfl, ?rd, ?po, fun _ => ⟨List.nodup_nil, fun _ h => nomatch h⟩⟩, fun b o e => F8.keep b o e, hon.symm, ?gn⟩
  case rd => exact .bool true
  case po => with_unfolding_all rfl
  case gn => exact hgn.symm.trans (by assumption))
end
end Mine
example : True := by
  k_with_none
  k_with "LeaveF" => (refine leaveF_ (by k_asm) ?_; intro kk; (try dsimp only))
  k_with "Shut" => (refine shut (by assumption) ?_; (try dsimp only))
  k_with "execs cons" => (refine shutX ?_; intro tX PX hPX)
  k_with "exec For Name Call cons nil" => (k_here; refine held ?_)
  k_with "exec For Tuple Call cons nil" => (k_here; refine held ?_)
  k_with "exec For Name Name cons nil" => (k_here; refine held ?_)
  k_with "exec For Tuple Name cons nil" => (k_here; refine held ?_)
  k_with "exec While" => (k_here; refine held ?_)
  trivial
theorem PySem.Challenge.cw_wf0030_01_holds : PySem.Challenge.rw_wf0030_01.Holds :=
  Mine.law_walk

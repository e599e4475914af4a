import PyProof.Rows.All
import Wide.All
import OpenK.AllK
import Wide.FinOn
import PySem.Challenge.RW_in0205_01

open PySem PySem.W PyProof.Rows
set_option Elab.async false
set_option maxRecDepth 100000
set_option maxHeartbeats 8000000
namespace Mine
open_top hd for PySem.Challenge.rw_in0205_01
end Mine

open PySem PySem.W PySem.Spec PySem.Calls PyProof.Rows
set_option Elab.async false
set_option maxRecDepth 100000
namespace Mine
noncomputable abbrev P0 : Program := PySem.Challenge.pw_in0205_01

/-- what the ground of the run holds -/
structure Gd (w : World) (mg mb : Str → Option Value) (base : Heap) : Prop where
  X : (hd.heap_39 w.params).In base
  T : TopRead hd.view_39 (looseW hd.view_39 [Str.ofString "filterfalse"]) mg mb base

theorem Gd.keeps {w : World} {mg mb : Str → Option Value} {b b' : Heap} (G : Gd w mg mb b) (k : b.StaysIn b') : Gd w mg mb b' := ⟨G.X.keeps k, G.T.keeps k⟩

theorem enterP {prog : Program} {w : World} {A : Around} {s : Shared} {base : Heap}
  {R : Result → Shared → Prop} {name qual : Str} {params : Arguments} {body : List Stmt} {scope : Scope} {cl : List (Str × Addr)} {dV kV doc pm cdv ct : Value} {an : Option Addr} {fo : Obj} {f : Addr} {args : Args} {binds : List (Str × Value)}
    (st : base.StaysIn s.heap) (hlim : base.NoLimit)
    (ho : base.get? f = some fo) (hd : fo.data = .func (fnX name qual params body scope cl dV kV doc pm an cdv ct)) (hcd : base.CodeRec cdv qual) (hroom : A.depth < recursionLimit)
    (hsz : base.objs.size ≤ s.heap.objs.size)
    (hbind : BindsTo s (fnX name qual params body scope cl dV kV doc pm an cdv ct) args binds) (hloc : ∀ y ∈ binds, scope.names.lookup y.1 = some .local)
    (h : ∀ L' h₁, L' = s.heap.objs.size → Fr base L' h₁ (fun y => binds.reverse.lookup y) → (∀ b o, s.heap.get? b = some o → h₁.get? b = some o) →
      wpAny (model prog w) (A.deeper (envX qual scope L' f cdv cl)) (execs body (envX qual scope L' f cdv cl))
        (fun fl s' => R (.ok (.ret (match fl with | .ret v => v | _ => .none))) s')
        (fun e s' => wpAny (model prog w) (A.deeper (envX qual scope L' f cdv cl)) (leaving (envX qual scope L' f cdv cl) e) (fun _ s'' => R (.error e) s'') (fun e' s'' => R (.error e') s'') s')
        { s with heap := h₁, toks := s.toks + binds.length })
    (hcell : ∀ x ∈ scope.names, x.2 ≠ .cell) (hco : scope.isCoroutine = false := by rfl) (hgen : scope.isGenerator = false := by rfl) (hk : scope.kind = .function := by rfl) : codeAny (model prog w) A (.call (.ref f) args) R s := by
  refine codeAny_call_def (fd := fnX name qual params body scope cl dV kV doc pm an cdv ct) (body := body) (binds := binds) hroom (st _ _ ho) hd (hlim.keeps st) (hcd.keeps st) rfl hbind hcell hloc (fun h₁ hns hk₁ => ?_) hco hgen hk
  exact h _ h₁ rfl ⟨hns, fun b o e => hk₁ b o (st b o e), hsz⟩ hk₁

end Mine

open PySem PySem.W PySem.Spec PySem.Calls PyProof.Rows
set_option Elab.async false
set_option maxRecDepth 100000
set_option maxHeartbeats 8000000
namespace Mine
namespace SC
theorem slot_get : Slot "method_descriptor" "__get__" "method_descriptor.__get__" :=
  .of (owner := "method_descriptor") (n := "__get__") (by rw [typeLookup_type, builtinLookup_eq_fast]; kernel_rfl) (by decide +kernel) (by decide +kernel) (by decide +kernel)
    (by first | exact .inl (by decide +kernel) | exact .inr (by decide +kernel)) (by rw [isSubtype_type]; kernel_rfl)
theorem no_set : typeLookup (.type "method_descriptor") "__set__" = pure none := by rw [typeLookup_type, builtinLookup_eq_fast]; kernel_rfl
theorem no_delete : typeLookup (.type "method_descriptor") "__delete__" = pure none := by rw [typeLookup_type, builtinLookup_eq_fast]; kernel_rfl
theorem entry_get : entryFor table "method_descriptor.__get__" = some Builtin.«method_descriptor.__get__» := entryFor_of_tree (by kernel_rfl)
theorem args_get (a b c : Value) : argsOk "method_descriptor.__get__" ⟨[a, b, c], []⟩ := by unfold argsOk; kernel_rfl
theorem sub_set : isSubtype (.type "set") (.type "set") = pure true := by rw [isSubtype_type]; kernel_rfl
theorem owner_is : ".".intercalate ("set.__contains__".cutAt '.').dropLast = "set" := by decide +kernel
/-- the set's own test, bound -/
def bound (S : Addr) : Obj := { cls := .type "builtin_function_or_method", data := .fields #[.builtin "set.__contains__", .ref S] }

section
variable {prog : Program} {w : World} {M : Model} {A : Around} {E : Value → Shared → Prop} {s : Shared} {S : Addr} {o : Obj}
theorem find_contains {Q : Builtin.ObjectAttr.Found → Shared → Prop} (hx : s.heap.get? S = some o) (hc : o.cls = .type "set") (hd : o.dict = none) (hdt : notCls o = true)
   (h : Q (.bind (.builtin "method_descriptor.__get__") (.builtin "set.__contains__")) s) : wpAny M A (Builtin.ObjectAttr.find (.ref S) (.type "set") (PySem.Str.ofString "__contains__")) Q E s := by
  have hT : (s).TypeIs (.builtin "set.__contains__") "method_descriptor" := F.type_set_contains
  unfold Builtin.ObjectAttr.find
  refine wpAny_bind (wpAny_of_eq F.slot_set_contains.lookup ?_)
  unfold Builtin.ObjectAttr.getOf
  refine wpAny_bind (wpAny_specialOf hT slot_get.lookup ?_)
  unfold Builtin.ObjectAttr.dataDescriptor? Builtin.ObjectAttr.takesStores
  refine wpAny_bind (wpAny_bind (wpAny_bind (wpAny_specialOf hT no_set ?_)))
  simp only [Option.isSome_none, Bool.false_eq_true, if_false]
  refine wpAny_bind (wpAny_specialOf hT no_delete ?_)
  refine wpAny_pure (wpAny_pure ?_)
  unfold Builtin.ObjectAttr.ownThenClass Builtin.ObjectAttr.inOwnDict Builtin.ObjectAttr.ownDict loadHead instanceDict
  refine wpAny_bind (wpAny_bind (wpAny_bind (wpAny_loadPart hx ?_)))
  obtain ⟨oc, od, odt, osl⟩ := o
  dsimp only at hc hd
  subst hc hd
  cases odt <;> first | cases hdt | skip
  all_goals (
    refine wpAny_bind (wpAny_loadPart hx ?_)
    dsimp only
    rw [if_pos (by rfl)]
    refine wpAny_pure (wpAny_pure ?_)
    dsimp only
    refine wpAny_bind (wpAny_of_eq (a := ()) (by rfl) ?_)
    exact wpAny_bind (wpAny_rule (wpAny_pure h)))
theorem run_get {P : Fin → Shared → Prop} (hx : s.heap.get? S = some o) (hc : o.cls = .type "set") (h : P (.done (.ret (.ref s.heap.objs.size))) { s with heap := s.heap.push (bound S) }) :
    wpAny M A (Builtin.«method_descriptor.__get__» ⟨[.builtin "set.__contains__", .ref S, .type "set"], []⟩) P E s := by
  have hT : s.TypeIs (.ref S) "set" := ⟨_, hx, hc⟩
  unfold Builtin.«method_descriptor.__get__»
  refine wpAny_bind (wpAny_of_eq (a := (.builtin "set.__contains__", some (.ref S), some (.type "set"))) (by first | rfl | kernel_rfl) ?_)
  dsimp only
  rw [if_neg (by decide +kernel)]
  refine wpAny_bind ?_
  refine wpAny_bind (m := pure (_, _)) (wpAny_pure ?_)
  dsimp only
  rw [owner_is]
  refine wpAny_bind (wpAny_isInstance hT sub_set ?_)
  rw [if_neg (by decide)]
  refine wpAny_pure ?_
  exact wpAny_bind (wpAny_newObj_type (wpAny_pure h))
theorem getAttr_contains {Q : Value → Shared → Prop} {e : Bool} (hx : s.heap.get? S = some o) (hc : o.cls = .type "set") (hd : o.dict = none) (hdt : notCls o = true)
   (h : Q (.ref s.heap.objs.size) { s with heap := s.heap.push (bound S), toks := s.toks + 1 }) : wpAny (model prog w) A (getAttr (.ref S) (PySem.Str.ofString "__contains__") e) Q E s := by
  obtain ⟨hp, g, d, t, os⟩ := s
  have hT : (⟨hp, g, d, t, os⟩ : Shared).TypeIs (.ref S) "set" := ⟨_, hx, hc⟩
  have hT' : (⟨hp, g, d, t+1, os⟩ : Shared).TypeIs (.ref S) "set" := ⟨_, hx, hc⟩
  have hTb : (⟨hp, g, d, t+1, os⟩ : Shared).TypeIs (.builtin "set.__contains__") "method_descriptor" := F.type_set_contains
  unfold getAttr getAttrBy
  refine wpAny_bind (wpAny_mkText (wpAny_holding (wpAny_bind (wpAny_typeOf hT' ?_))))
  refine wpAny_bind (wpAny_of_eq F.slot_set_getattribute.lookup ?_)
  dsimp only
  rw [if_neg (by decide)]
  unfold getAttrByItsOwn
  refine wpAny_bind (wpAny_pure (wpAny_bind (wpAny_attempt (wpAny_holding ?_))))
  unfold callGetattribute
  rw [if_neg (by show ¬ ((e && false) = true); rw [Bool.and_false]; decide)]
  unfold boundAndCalled
  refine wpAny_bind (wpAny_of_eq (F.slot_set_getattribute.bind _) ?_)
  refine wpAny_call_entry F.slot_set_getattribute hT' F.entry_set_ga ?_ (F.args_set_getattribute_2 _ _)
  unfold Builtin.«object.__getattribute__» slotArgs
  dsimp only [List.isEmpty_nil, List.length_cons, List.length_nil, Bool.not_true]
  refine wpAny_bind (wpAny_of_eq (a := (.ref S, [.str "__contains__" t])) (by rfl) ?_)
  dsimp only
  refine wpAny_bind (wpAny_of_eq (a := PySem.Str.ofString "__contains__") (by rfl) ?_)
  refine wpAny_bind (wpAny_typeOf hT' ?_)
  refine wpAny_bind (find_contains hx hc hd hdt ?_)
  dsimp only
  unfold Builtin.ObjectAttr.bindTo
  dsimp only
  refine wpAny_bind (wpAny_holding ?_)
  refine wpAny_call_entry slot_get hTb entry_get ?_ (args_get _ _ _)
  refine run_get hx hc ?_
  refine ⟨_, rfl, wpAny_pure ⟨_, rfl, wpAny_pure h⟩⟩
end
end SC
end Mine

open PySem PySem.W PySem.Spec PySem.Calls PyProof.Rows
set_option Elab.async false
set_option maxRecDepth 100000
set_option maxHeartbeats 8000000
namespace Mine
namespace SC
theorem sig_is : Manifest.signature? "set.__contains__" = some ⟨.oneArg, "set.__contains__", "__contains__", .self, [⟨"object", .posOnly, true⟩]⟩ := by
  rw [signature?_of (id := "set.__contains__") (n := ['_', '_', 's', 'n', 'i', 'a', 't', 'n', 'o', 'c', '_', '_']) (o := ['t', 'e', 's']) (by kernel_rfl) F.owner_set]; kernel_rfl
theorem kind_is : builtinKind "set.__contains__" = some .method := by decide +kernel
theorem not_module : isSubtype (.type "set") (.type "module") = pure false := by rw [isSubtype_type]; kernel_rfl
theorem not_varargs : Manifest.varargsMethods.contains "set.__contains__" = false := by decide +kernel
theorem quiet_c {as : Args} : (Code.builtin "set.__contains__" as).quiet = true := Code.quiet_builtin _ (by decide +kernel)
theorem checkArgs_is (S : Addr) (v : Value) : Bind.checkArgs "set.__contains__" ⟨.oneArg, s!"{Bind.lastOf "set"}.{Bind.lastOf "set.__contains__"}", "__contains__", .self, [⟨"object", .posOnly, true⟩]⟩ ⟨[.ref S, v], []⟩ = pure () := by
  kernel_rfl
section
variable {prog : Program} {w : World} {M : Model} {A : Around} {E : Value → Shared → Prop} {s : Shared} {S u : Addr} {o : Obj}
theorem check_bm {v : Value} {Q : Unit → Shared → Prop} (hx : s.heap.get? S = some o) (hc : o.cls = .type "set") (hdt : notCls o = true) (h : Q () s) :
    wpAny M A (checkBoundCall "set.__contains__" ⟨[.ref S, v], []⟩) Q E s := by
  have hT : s.TypeIs (.ref S) "set" := ⟨_, hx, hc⟩
  unfold checkBoundCall
  rw [sig_is, kind_is]
  dsimp only
  rw [if_neg (by decide)]
  refine wpAny_bind (wpAny_isInstance hT not_module ?_)
  rw [not_varargs]
  rw [if_neg (by decide)]
  refine wpAny_bind ?_
  unfold isType loadHead
  refine wpAny_bind (wpAny_bind (wpAny_loadPart hx ?_))
  obtain ⟨oc, od, odt, osl⟩ := o
  dsimp only at hc
  subst hc
  cases odt <;> first | cases hdt | skip
  all_goals (
    refine wpAny_pure ?_
    refine wpAny_pure ?_
    dsimp only
    rw [if_neg (by decide)]
    refine wpAny_bind (wpAny_typeOf hT ?_)
    exact wpAny_of_eq (checkArgs_is S v) h)
theorem contains_body {K : Type} [DecidableEq K] {knd : KeyKind prog w K} {k : K} {key : Value} {Sf : K → Bool} {n : Nat} {Q : Fin → Shared → Prop} (hkey : knd.is k key = true) (hsc : key.scannable = true) (hS : s.heap.SetOf knd S Sf n)
    (h : Q (.done (.ret (.bool (Sf k)))) { s with toks := s.toks + 1 }) : wpAny (model prog w) A (Builtin.«frozenset.__contains__» ⟨[.ref S, key], []⟩) Q E s := by
  unfold Builtin.«frozenset.__contains__» Builtin.Frozenset.oneOther
  simp only [List.isEmpty_nil, bind_assoc]
  unfold Builtin.Frozenset.addrOf Builtin.Frozenset.withSetAsKey setContains
  refine wpAny_bind (wpAny_pure ?_)
  try dsimp only
  refine wpAny_bind (wpAny_pure ?_)
  try dsimp only
  refine wpAny_bind (wpAny_tryCatch ?_)
  refine wpAny_holding ?_
  refine wpAny_bind (knd.pyHash hkey ?_)
  refine wpAny_bind (wpAny_setFind_of (s := { s with toks := s.toks + 1 }) hkey hsc hS fun r hr => ?_)
  refine wpAny_pure ?_
  show wpAny _ _ (ret (Value.bool r.isSome)) _ _ _
  rw [hr]
  exact wpAny_pure h

theorem callWith_fields {pos : Pos} {first : List Value} {args : List (Bool × Sem Value)} {Q : Value → Shared → Prop} (hplain : args.any (·.1) = false)
    (h : wpAny M A (evalArgs (.ref u) true args []) (fun x s₁ => s₁.heap.get? u = some (bound S) ∧ wpAny M A (call (.ref u) (first ++ x.pos) x.kw) Q E s₁) E s) : wpAny M A (callWith pos (.ref u) first args []) Q E s := by
  unfold callWith
  refine wpAny_bind (wpAny_holding (wpAny_mono h (fun x s₁ h₁ => wpAny_bind (wpAny_standAt ?_)) fun _ _ x => x))
  obtain ⟨ho, hcall⟩ := h₁
  simp only [hplain, List.any_nil, Bool.or_false]
  refine wpAny_bind (m := keeperOf (.ref u)) ?_
  unfold keeperOf
  refine wpAny_bind (wpAny_load ho ?_)
  simp only [bound, show (Value.type "builtin_function_or_method" != Value.type "method") = true by decide, show (Value.type "builtin_function_or_method" == Value.type "builtin_function_or_method" || Value.type "builtin_function_or_method" == Value.type "method-wrapper") = true by decide, if_true]
  refine wpAny_pure ?_
  exact wpAny_bind (wpAny_mono hcall (fun r s₂ hr => wpAny_bind (wpAny_holding (wpAny_point (wpAny_pure hr)))) fun _ _ x => x)
theorem callWith_bm {pos : Pos} {first : List Value} {env : Env} {e : Expr} {rest : List Expr} {Q : Value → Shared → Prop}
    (h : wpAny M A (spliced (backTo pos (starEach (e :: rest) env))) (fun vs s₁ => s₁.heap.get? u = some (bound S) ∧ wpAny M A (call (.ref u) (first ++ vs)) Q E s₁) E s)
    (he : starEach (e :: rest) env = (false, eval e env) :: starEach rest env := by rfl) (hplain : (backTo pos (starEach rest env)).any (·.1) = false := by rfl) :
    wpAny M A (callWith pos (.ref u) first (backTo pos (starEach (e :: rest) env)) []) Q E s := by
  rw [he] at h ⊢
  refine callWith_fields (S := S) (by show (false || (backTo pos (starEach rest env)).any (·.1)) = false; rw [hplain]; rfl) ?_
  exact evalArgs_plain h
theorem call_bm {K : Type} [DecidableEq K] {knd : KeyKind prog w K} {k : K} {key : Value} {Sf : K → Bool} {n : Nat} {Q : Value → Shared → Prop} (hu : s.heap.get? u = some (bound S)) (hkey : knd.is k key = true) (hsc : key.scannable = true) (hS : s.heap.SetOf knd S Sf n)
    (hx : s.heap.get? S = some o) (hc : o.cls = .type "set") (hdt : notCls o = true)
    (h : Q (.bool (Sf k)) { s with toks := s.toks + 1 }) : wpAny (model prog w) A (call (.ref u) [key]) Q E s := by
  refine wpAny_call (codeAny_of_tree ?_)
  show wpAny _ A.in1 (callAny (.ref u) ⟨[key], []⟩) _ _ s
  simp only [callAny]
  refine wpAny_bind (wpAny_load hu ?_)
  simp only [bound, show (Value.type "builtin_function_or_method" == Value.type "method" || Value.type "builtin_function_or_method" == Value.type "builtin_function_or_method" || Value.type "builtin_function_or_method" == Value.type "method-wrapper") = true by decide, if_true]
  refine KFB.if_so (by decide) ?_
  refine wpAny_bind (check_bm hx hc hdt ?_)
  refine wpAny_bind (wpAny_pure (wpAny_pure ?_))
  exact ⟨quiet_c, codeAny_builtin entry_set_contains (contains_body hkey hsc hS h)⟩
end
end SC
end Mine

open PySem PySem.W PySem.Spec PySem.Calls PyProof.Rows
set_option Elab.async false
set_option maxRecDepth 100000
set_option maxHeartbeats 8000000
namespace Mine
/-- the frames of a stack -/
def fr (fl : List Env) : List Addr := fl.filterMap (·.frame)
def Fms (fl : List Env) (h : Heap) : Prop := ∀ env ∈ fl, env.scope.kind ≠ .module ∧ ∃ L o es ep, env.frame = some L ∧ h.get? L = some o ∧ o.data = .dict es ep
/-- all is kept, frames up to their slots -/
structure Kp (fl : List Env) (h h' : Heap) : Prop where
  keep : ∀ b o, h.get? b = some o → b ∉ fr fl → h'.get? b = some o
  up : ∀ b o, h.get? b = some o → b ∈ fr fl → ∃ sl, h'.get? b = some { o with slots := sl }
theorem Kp.refl {fl : List Env} {h : Heap} : Kp fl h h := ⟨fun _ _ e _ => e, fun _ o e _ => ⟨o.slots, e⟩⟩
theorem Kp.of_stays {fl : List Env} {h h' : Heap} (k : h.StaysIn h') : Kp fl h h' := ⟨fun b o e _ => k b o e, fun b o e _ => ⟨o.slots, k b o e⟩⟩
theorem Kp.trans {fl : List Env} {h₁ h₂ h₃ : Heap} (x : Kp fl h₁ h₂) (y : Kp fl h₂ h₃) : Kp fl h₁ h₃ :=
  ⟨fun b o e n => y.keep b o (x.keep b o e n) n, fun b o e n => let ⟨_, e₁⟩ := x.up b o e n; let ⟨sl, e₂⟩ := y.up b _ e₁ n; ⟨sl, e₂⟩⟩
theorem Kp.any {fl : List Env} {h h' : Heap} (x : Kp fl h h') {b : Addr} {o : Obj} (e : h.get? b = some o) : ∃ sl, h'.get? b = some { o with slots := sl } := by
  by_cases n : b ∈ fr fl
  · exact x.up b o e n
  · exact ⟨o.slots, x.keep b o e n⟩
/-- a frame more: less is said -/
theorem Kp.drop {env : Env} {fl : List Env} {h h' : Heap} (x : Kp (env :: fl) h h') (n : ∀ L, env.frame = some L → h.get? L = none) : Kp fl h h' := by
  refine ⟨fun b o e hb => x.keep b o e fun hm => ?_, fun b o e _ => x.any e⟩
  unfold fr at hm hb
  rw [List.filterMap_cons] at hm
  cases hf : env.frame with
  | none => rw [hf] at hm; exact hb hm
  | some L =>
    rw [hf] at hm
    rcases List.mem_cons.mp hm with q | hm
    · have := n L hf; rw [← q, e] at this; cases this
    · exact hb hm
theorem Fms.mem {fl : List Env} {h : Heap} (x : Fms fl h) {b : Addr} (hb : b ∈ fr fl) : ∃ o es ep, h.get? b = some o ∧ o.data = .dict es ep := by
  obtain ⟨env, he, hf⟩ := List.mem_filterMap.mp hb
  obtain ⟨_, L, o, es, ep, hL, ho, hd⟩ := x env he
  rw [hf] at hL
  obtain rfl := Option.some.inj hL
  exact ⟨o, es, ep, ho, hd⟩
theorem Fms.not_mem {fl : List Env} {h : Heap} (x : Fms fl h) {b : Addr} {o : Obj} (e : h.get? b = some o) (nd : ∀ es ep, o.data ≠ .dict es ep) : b ∉ fr fl := fun hb => by
  obtain ⟨o', es, ep, ho, hd⟩ := x.mem hb
  rw [e] at ho
  cases ho
  exact nd es ep hd
theorem Fms.kp {fl : List Env} {h h' : Heap} (x : Fms fl h) (k : Kp fl h h') : Fms fl h' := fun env he => by
  obtain ⟨hk, L, o, es, ep, hL, ho, hd⟩ := x env he
  obtain ⟨sl, h'⟩ := k.any ho
  exact ⟨hk, L, _, es, ep, hL, h', hd⟩
theorem Fms.stays {fl : List Env} {h h' : Heap} (x : Fms fl h) (k : h.StaysIn h') : Fms fl h' := x.kp (.of_stays k)
theorem Fms.fun_ {fl : List Env} {h : Heap} (x : Fms fl h) {base : Heap} (n : ∀ b ∈ fr fl, base.get? b = none) : h.FunFrames base fl := by
  induction fl with
  | nil => trivial
  | cons env r ih =>
    obtain ⟨hk, L, o, es, ep, hL, ho, hd⟩ := x env (.head _)
    refine ⟨hk, ⟨L, o, hL, n L ?_, ho, fun vs q => by rw [hd] at q; cases q⟩, ih (fun e he => x e (.tail _ he)) fun b hb => n b ?_⟩
    · unfold fr; rw [List.filterMap_cons, hL]; exact .head _
    · unfold fr at hb ⊢; rw [List.filterMap_cons, hL]; exact .tail _ hb
/-- the ground below a call: what stands but the frames -/
abbrev gnd (fl : List Env) (h : Heap) : Heap := hideAll h (fr fl)
theorem gnd_get {fl : List Env} {h : Heap} {b : Addr} {o : Obj} (e : h.get? b = some o) (n : b ∉ fr fl) : (gnd fl h).get? b = some o := hideAll_get _ e n
theorem gnd_of {fl : List Env} {h : Heap} {b : Addr} {o : Obj} (e : (gnd fl h).get? b = some o) : h.get? b = some o := of_hideAll _ e
theorem gnd_none {fl : List Env} {h : Heap} {b : Addr} (n : b ∈ fr fl) : (gnd fl h).get? b = none := hideAll_none _ n
theorem gnd_not {fl : List Env} {h : Heap} {b : Addr} {o : Obj} (e : (gnd fl h).get? b = some o) : b ∉ fr fl := fun n => by rw [gnd_none n] at e; cases e
theorem Kp.gnd {fl : List Env} {h h' : Heap} (k : Kp fl h h') : (gnd fl h).StaysIn (Mine.gnd fl h') := fun b o e => gnd_get (k.keep b o (gnd_of e) (gnd_not e)) (gnd_not e)
theorem Kp.gnd' {fl : List Env} {h h' : Heap} (k : Kp fl h h') : (Mine.gnd fl h).StaysIn h' := fun b o e => k.keep b o (gnd_of e) (gnd_not e)
/-- what a call of the text's may ask of the place where it stands -/
structure Ok (w : World) (mg mb : Str → Option Value) (fl : List Env) (h : Heap) : Prop where
  g : Gd w mg mb (gnd fl h)
  f : Fms fl h
theorem Ok.kp {w : World} {mg mb : Str → Option Value} {fl : List Env} {h h' : Heap} (x : Ok w mg mb fl h) (k : Kp fl h h') : Ok w mg mb fl h' := ⟨x.g.keeps k.gnd, x.f.kp k⟩
theorem Ok.stays {w : World} {mg mb : Str → Option Value} {fl : List Env} {h h' : Heap} (x : Ok w mg mb fl h) (k : h.StaysIn h') : Ok w mg mb fl h' := x.kp (.of_stays k)
theorem Ok.isList {w : World} {mg mb : Str → Option Value} {fl : List Env} {h : Heap} (x : Ok w mg mb fl h) {a : Addr} {xs : Array Value} (l : h.IsList a xs) : (gnd fl h).IsList a xs := by
  obtain ⟨o, ho, hc, n, hd⟩ := l
  exact ⟨o, gnd_get ho (x.f.not_mem ho fun es ep q => by rw [hd] at q; cases q), hc, n, hd⟩
theorem isList_of_gnd {fl : List Env} {h : Heap} {a : Addr} {xs : Array Value} (l : (gnd fl h).IsList a xs) : h.IsList a xs :=
  let ⟨o, ho, r⟩ := l; ⟨o, gnd_of ho, r⟩
theorem isList_any {h h' : Heap} (k : ∀ b o, h.get? b = some o → ∃ sl, h'.get? b = some { o with slots := sl }) {a : Addr} {xs : Array Value} (l : h.IsList a xs) : h'.IsList a xs :=
  let ⟨o, ho, r⟩ := l; let ⟨_, e⟩ := k a o ho; ⟨_, e, r⟩
theorem Kp.isList {fl : List Env} {h h' : Heap} (k : Kp fl h h') {a : Addr} {xs : Array Value} (l : h.IsList a xs) : h'.IsList a xs := isList_any (fun _ _ e => k.any e) l

/-- the frames of the stack as a ledger -/
theorem frest {fl : List Env} {h : Heap} (x : Fms fl h) {base : Heap} {L : Addr} {h₁ : Heap} (k : h.StaysIn h₁) (n : ∀ b ∈ fr fl, base.get? b = none) (nL : L ∉ fr fl) :
    ∃ rest, News base L h₁ rest ∧ (∀ p ∈ rest, p.1 ∈ fr fl) ∧ ∀ b ∈ fr fl, ∃ o, (b, o) ∈ rest := by
  suffices ∀ l : List Addr, (∀ b ∈ l, b ∈ fr fl) → ∃ rest, News base L h₁ rest ∧ (∀ p ∈ rest, p.1 ∈ fr fl) ∧ ∀ b ∈ l, ∃ o, (b, o) ∈ rest from this _ fun _ h => h
  intro l
  induction l with
  | nil => exact fun _ => ⟨[], News.nil, fun _ h => (nomatch h), fun _ h => (nomatch h)⟩
  | cons a r ih =>
    intro hl
    obtain ⟨rest, N, h1, h2⟩ := ih fun b hb => hl b (.tail _ hb)
    obtain ⟨o, es, ep, ho, hd⟩ := x.mem (hl a (.head _))
    refine ⟨(a, o) :: rest, fun p hp => ?_, fun p hp => ?_, fun b hb => ?_⟩
    · rcases List.mem_cons.mp hp with rfl | hp
      · exact ⟨k _ _ ho, fun q => nL (by rw [← q]; exact hl a (.head _)), n _ (hl a (.head _))⟩
      · exact N p hp
    · rcases List.mem_cons.mp hp with rfl | hp
      · exact hl a (.head _)
      · exact h1 p hp
    · rcases List.mem_cons.mp hb with q | hb
      · exact ⟨o, by rw [q]; exact .head _⟩
      · obtain ⟨o', h'⟩ := h2 b hb
        exact ⟨o', .tail _ h'⟩
/-- the rest of a ledger says of every frame what it is -/
structure Covers (fl : List Env) (rest : List (Addr × Obj)) : Prop where
  of : ∀ p ∈ rest, p.1 ∈ fr fl
  all : ∀ b ∈ fr fl, ∃ o, (b, o) ∈ rest
theorem Covers.lt {fl : List Env} {rest : List (Addr × Obj)} (c : Covers fl rest) {h : Heap} (x : Fms fl h) : ∀ p ∈ rest, p.1 < h.objs.size := fun p hp => by
  obtain ⟨o, _, _, ho, _⟩ := x.mem (c.of p hp)
  exact Heap.lt_size ho
theorem fms_of_news {fl : List Env} {rest : List (Addr × Obj)} {b : Heap} {L : Addr} {h h' : Heap} (x : Fms fl h) (c : Covers fl rest) (N : News b L h rest) (N' : News b L h' rest) : Fms fl h' := fun env he => by
  obtain ⟨hk, L', o, es, ep, hL, ho, hd⟩ := x env he
  obtain ⟨o', ho'⟩ := c.all L' (List.mem_filterMap.mpr ⟨env, he, hL⟩)
  have e := (N _ ho').1
  rw [ho] at e
  have e' := Option.some.inj e
  exact ⟨hk, L', o', es, ep, hL, (N' _ ho').1, by rw [← show o = o' from e']; exact hd⟩

/-- what stood at the call's begin stands behind a stretch that raises nothing -/
theorem stays_back {fl : List Env} {rest : List (Addr × Obj)} {L : Addr} {h h₁ h' : Heap} {m : Str → Option Value} (c : Covers fl rest) (k : h.StaysIn h₁) (N : News (gnd fl h) L h₁ rest) (F' : Fr (gnd fl h) L h' m) (N' : News (gnd fl h) L h' rest) : h.StaysIn h' := fun b o e => by
  by_cases hb : b ∈ fr fl
  · obtain ⟨o', ho'⟩ := c.all b hb
    have e' := (N _ ho').1
    rw [k b o e] at e'
    cases e'
    exact (N' _ ho').1
  · exact F'.keep b o (gnd_get e hb)
end Mine

open PySem PySem.W PySem.Spec PySem.Calls PyProof.Rows
set_option Elab.async false
set_option maxRecDepth 100000
set_option maxHeartbeats 8000000
namespace Mine
theorem fill : PySem.Challenge.rw_in0205_01 = PySem.Challenge.rw_in0205_01 ∧ hd.heap_39 = hd.heap_39 := by
  k_fill
  exact ⟨rfl, rfl⟩

theorem Ok.all {w : World} {mg mb : Str → Option Value} {fl : List Env} {h : Heap} (x : Ok w mg mb fl h) : Gd w mg mb h := x.g.keeps fun _ _ e => gnd_of e

theorem step_dedup_any (l : List Int) (v k : Int) : (step_dedup l v).any (· == k) = (l.any (· == k) || v == k) := by
  unfold step_dedup
  split
  · rename_i h
    cases hv : (v == k) with
    | false => rw [Bool.or_false]
    | true =>
      have : v = k := by simpa using hv
      subst this
      simp_all
  · rw [List.any_append]; simp
theorem firstMet_any (ns : List Int) (k : Int) : ∀ i, i ≤ ns.length → (firstMet (fun i => ns.getD i 0) i).any (· == k) = (ns.take i).any (· == k)
  | 0, _ => by rw [firstMet_zero]; simp
  | i + 1, h => by
    rw [firstMet_succ, step_dedup_any, firstMet_any ns k i (by omega), List.take_succ, List.any_append]
    have : ns[i]? = some (ns.getD i 0) := by
      rw [List.getD_eq_getElem?_getD, List.getElem?_eq_getElem (by omega)]; rfl
    rw [this]
    simp

section
variable {prog : Program} {w : World} {A : Around} {E : Value → Shared → Prop} {s : Shared} {h₀ : Heap} {L : Addr} {m : Str → Option Value} {news : List (Addr × Obj)}
theorem newSet_list {l : Addr} {vs : List Value} {ns : List Int} {Q : Value → Shared → Prop} (F : Fr h₀ L s.heap m) (N : News h₀ L s.heap news)
    (hh : A.handled = none) (hl : h₀.IsList l vs.toArray) (hi : IntsAre vs ns) (hb : ns.length ≤ 64)
    (h : ∀ S h' (tk : Nat) o, Fr h₀ L h' m → News h₀ L h' ((S, o) :: news) → (∀ p ∈ news, p.1 < S) →
      (∃ n, n < scanBound ∧ o.SetObjOf (intKind prog w) (fun k' => ns.any (· == k')) n) → o.cls = .type "set" → o.dict = none → notCls o = true →
      Q (.ref S) { s with heap := h', toks := tk }) :
    wpAny (model prog w) A (call (.type "set") [.ref l]) Q E s := by
  have hvn : vs.length = ns.length := IntsAre.length hi
  refine newSetList_N F N hh hl hi (by unfold scanBound; omega) fun h' tk o F' N' hso hle hfit => ?_
  refine h _ h' tk o F' N' (fun p hp => Heap.lt_size (N p hp).1) ⟨_, Nat.lt_of_le_of_lt hle (by unfold scanBound; omega), ?_⟩ ?_ ?_ ?_
  · have e : (fun k' => (firstMet (fun i => ns.getD i 0) vs.length).any (· == k')) = (fun k' => ns.any (· == k')) := by
      funext k'
      rw [firstMet_any ns k' _ (by omega), hvn, List.take_length]
    rw [← e]; exact hso
  · exact hso.1.1
  · exact hso.1.2.1
  · obtain ⟨_, es, ep, t, hd, _⟩ := hso
    unfold notCls; rw [hd]
theorem getAttr_N {S : Addr} {o : Obj} {e : Bool} {Q : Value → Shared → Prop} (F : Fr h₀ L s.heap m) (N : News h₀ L s.heap news) (hm : (S, o) ∈ news) (hc : o.cls = .type "set") (hd : o.dict = none) (hdt : notCls o = true)
   (h : ∀ u h', Fr h₀ L h' m → News h₀ L h' ((u, SC.bound S) :: news) → (∀ p ∈ news, p.1 < u) → Q (.ref u) { s with heap := h', toks := s.toks + 1 }) :
   wpAny (model prog w) A (getAttr (.ref S) (PySem.Str.ofString "__contains__") e) Q E s :=
  SC.getAttr_contains (N.get hm) hc hd hdt (h _ _ (F.push _) (N.push F _) fun p hp => Heap.lt_size (N p hp).1)
theorem iter_list {l : Addr} {items : Array Value} {Q : Value → Shared → Prop} (F : Fr h₀ L s.heap m) (N : News h₀ L s.heap news) (hl : h₀.IsList l items)
    (h : ∀ I h', Fr h₀ L h' m → News h₀ L h' ((I, { cls := .type "list_iterator", data := .fields #[.ref l, .int 0 0] }) :: news) → (∀ p ∈ news, p.1 < I) → Q (.ref I) { s with heap := h' }) :
    wpAny (model prog w) A (call (.builtin "iter") [.ref l]) Q E s := by
  have hl' : s.heap.IsList l items := let ⟨o, ho, r⟩ := hl; ⟨o, F.keep _ _ ho, r⟩
  refine call_function_entry (by decide +kernel) (by decide +kernel) kdk_entry_iter (kdk_args_iter _) ?_
  unfold Builtin.«iter»
  refine wpAny_bind (m := someArgs "iter" 1 2 _) (wpAny_of_eq (a := [Value.ref l]) (by first | rfl | kernel_rfl!) ?_)
  show wpAny _ _ (pyIter (.ref l) >>= _) _ _ _
  refine wpAny_bind (wpAny_pyIter_list hl' ?_)
  exact wpAny_pure ⟨_, rfl, h _ _ (F.push _) (News.push F N _ rfl) (fun q hq => Heap.lt_size (N q hq).1)⟩
end
theorem enterN {prog : Program} {w : World} {A : Around} {s : Shared} {base : Heap} {L : Addr} {m : Str → Option Value} {news : List (Addr × Obj)}
  {R : Result → Shared → Prop} {name qual : Str} {params : Arguments} {body : List Stmt} {scope : Scope} {cl : List (Str × Addr)} {dV kV doc pm cdv ct : Value} {an : Option Addr} {fo : Obj} {f : Addr} {args : Args} {binds : List (Str × Value)}
    (F : Fr base L s.heap m) (N : News base L s.heap news) (hlim : base.NoLimit)
    (ho : base.get? f = some fo) (hd : fo.data = .func (fnX name qual params body scope cl dV kV doc pm an cdv ct)) (hcd : base.CodeRec cdv qual) (hroom : A.depth < recursionLimit)
    (hbind : BindsTo s (fnX name qual params body scope cl dV kV doc pm an cdv ct) args binds) (hloc : ∀ y ∈ binds, scope.names.lookup y.1 = some .local)
    (h : ∀ L' h₁ oL, Fr base L' h₁ (fun y => binds.reverse.lookup y) → News base L' h₁ ((L, oL) :: news) → L < L' → (∀ p ∈ news, p.1 < L') → (∀ h' : Heap, h'.get? L = some oL → h'.Ns L m) →
      wpAny (model prog w) (A.deeper (envX qual scope L' f cdv cl)) (execs body (envX qual scope L' f cdv cl))
        (fun fl s' => R (.ok (.ret (match fl with | .ret v => v | _ => .none))) s')
        (fun e s' => wpAny (model prog w) (A.deeper (envX qual scope L' f cdv cl)) (leaving (envX qual scope L' f cdv cl) e) (fun _ s'' => R (.error e) s'') (fun e' s'' => R (.error e') s'') s')
        { s with heap := h₁, toks := s.toks + binds.length })
    (hcell : ∀ x ∈ scope.names, x.2 ≠ .cell) (hco : scope.isCoroutine = false := by rfl) (hgen : scope.isGenerator = false := by rfl) (hk : scope.kind = .function := by rfl) : codeAny (model prog w) A (.call (.ref f) args) R s := by
  obtain ⟨oL, es, ep, hL, r⟩ := F.ns
  have lL := Heap.lt_size hL
  refine enterP F.keep hlim ho hd hcd hroom (Nat.le_trans F.above (Nat.le_of_lt lL)) hbind hloc (fun L' h₁ e F' hk₁ => ?_) hcell hco hgen hk
  subst e
  refine h _ h₁ oL F' (fun p hp => ?_) lL (fun p hp => Heap.lt_size (N p hp).1) fun h' e => ⟨oL, es, ep, e, r⟩
  rcases List.mem_cons.mp hp with rfl | hp
  · refine ⟨hk₁ _ _ hL, Nat.ne_of_lt lL, ?_⟩
    cases q : base.get? L with
    | none => rfl
    | some o => exact absurd (Nat.lt_of_lt_of_le (Heap.lt_size q) F.above) (Nat.lt_irrefl _)
  · exact ⟨hk₁ _ _ (N p hp).1, Nat.ne_of_lt (Heap.lt_size (N p hp).1), (N p hp).2.2⟩
theorem Fr_back {base h h' : Heap} {L L' : Addr} {m m' : Str → Option Value} {oL : Obj} (F : Fr base L h m) (F' : Fr base L' h' m') (e : h'.get? L = some oL) (ns : ∀ h' : Heap, h'.get? L = some oL → h'.Ns L m) : Fr base L h' m := ⟨ns _ e, F'.keep, F.above⟩

/-- a filterfalse x over the list a, at its place i, by the set S that holds what f says -/
structure FF (w : World) (h : Heap) (x dx it u S a : Addr) (i : Nat) (f : Int → Bool) : Prop where
  x_ : h.get? x = some { cls := .ref 47, dict := some dx, data := .plain, slots := #[some (.ref u), some (.ref it)] }
  dx_ : h.get? dx = some (dictOf [] 0)
  it_ : h.get? it = some { cls := .type "list_iterator", data := .fields #[.ref a, .int i 0] }
  u_ : h.get? u = some (SC.bound S)
  S_ : ∃ so n, h.get? S = some so ∧ n < scanBound ∧ so.SetObjOf (intKind P0 w) f n

local macro_rules | `(tactic| walk_at "call type:set cons nil") => `(tactic| (refine newSet_list (by k_asm) (by k_asm) (by assumption) (by k_asm) (by assumption) (by assumption) ?_; intro S' h' tk' so' F' N' l1 hso' d1' d2' d3'; (try k_lt l1); (try k_sweep)))
local macro_rules | `(tactic| walk_at "getAttr ref") => `(tactic| ((with_reducible show wpAny _ _ (getAttr _ (PySem.Str.ofString "__contains__") _) _ _ _); refine getAttr_N (by k_asm) (by k_asm) (by k_mem) (by assumption) (by assumption) (by assumption) ?_; intro u' h' F' N' l1; (try k_lt l1); (try k_sweep)))
local macro_rules | `(tactic| walk_at "call builtin:iter") => `(tactic| (refine iter_list (by k_asm) (by k_asm) (by k_asm) ?_; intro I' h' F' N' l1; (try k_lt l1); (try k_sweep)))
theorem difference_spec {w : World} {mg mb : Str → Option Value} {A : Around} {s : Shared} {Q E : Value → Shared → Prop} {a b : Addr} {vs ws : List Value} {ys : List Int}
   (G : Gd w mg mb s.heap) (hroom : A.depth < 900) (hh : A.handled = none)
   (ha : s.heap.IsList a vs.toArray) (hb : s.heap.IsList b ws.toArray) (hyb : IntsAre ws ys) (hlb : ys.length ≤ 64)
   (hQ : ∀ h' tk x dx it u S, s.heap.StaysIn h' → s.heap.get? x = none → s.heap.get? dx = none → s.heap.get? it = none → FF w h' x dx it u S a 0 (fun k => ys.any (· == k)) → Q (.ref x) { s with heap := h', toks := tk }) :
   wpAny (model P0 w) A (call (.ref 58) [.ref a, .ref b]) Q E s := by
  have st : s.heap.StaysIn s.heap := fun b o e => e
  have ⟨KX, T⟩ := G
  refine wpAny_call (enterP (binds := [(Str.ofString "minuend", .ref a), (Str.ofString "subtrahend", .ref b)]) st T.nolimit (KX 58 _ rfl) rfl (codeRec_of KX (by rfl)) (by show A.depth < 1000; omega) (Nat.le_refl _) (BindsTo.of_eq rfl) (locs rfl) (fun L' h₁ eL F hk => ?_) (by decide))
  have N : News s.heap L' h₁ [] := News.nil
  clear hk
  all_goals try k_fold
  k_steps
  rename_i S h2 tk2 so hso so1 so2 so3 l0 u h3 F3 N3 l1
  refine call_cls F3 KX N3 (by k_is) (by k_is) (by k_is) ?_
  intro x dx h4 F4 N4 l2 l3
  k_lt l2; k_lt2 l3
  refine enterN (binds := [(Str.ofString "self", .ref x), (Str.ofString "function", .ref u), (Str.ofString "iterable", .ref a)]) F4 N4 T.nolimit (KX 29 _ rfl) rfl (codeRec_of KX (by rfl)) (by show A.depth + 2 < 1000; omega) (BindsTo.of_eq rfl) (locs rfl) ?_ (by decide)
  have e1 : @Ne Nat x L' := (N4 _ (.head _)).2.1
  have e2 : @Ne Nat dx L' := (N4 _ (.tail _ (.head _))).2.1
  intro L5 h5 oL F5 N5 l4 l5 ns
  k_lt l5; k_lt2 l4
  try k_fold
  k_steps
  rename_i I h6 F6 l6 h7 F7 N7
  refine ⟨rfl, ?_⟩
  show Q (.ref x) _
  have m1 := N7 _ (.head _)
  have m2 := N7 _ (.tail _ (.tail _ (.head _)))
  have m3 := N7 _ (.tail _ (.tail _ (.tail _ (.head _))))
  have m4 := N7 _ (.tail _ (.tail _ (.tail _ (.tail _ (.head _)))))
  have m5 := N7 _ (.tail _ (.tail _ (.tail _ (.tail _ (.tail _ (.head _))))))
  obtain ⟨n, hn, hso⟩ := hso
  exact hQ _ _ x dx I u S F7.keep m2.2.2 m3.2.2 m1.2.2 ⟨m2.1, m3.1, m1.1, m4.1, so, n, m5.1, hn, hso⟩
end Mine

open PySem PySem.W PySem.Spec PySem.Calls PyProof.Rows
set_option Elab.async false
set_option maxRecDepth 100000
set_option maxHeartbeats 8000000
namespace Mine
section
variable {prog : Program} {w : World} {A : Around} {E : Value → Shared → Prop} {s : Shared}
theorem next_item {it l : Addr} {i : Nat} {items : Array Value} {x : Value} {Q : Value → Shared → Prop} (ho : s.heap.get? it = some { cls := .type "list_iterator", data := .fields #[.ref l, .int i 0] })
    (hl : s.heap.IsList l items) (hx : items[i]? = some x)
    (hQ : ∀ h', h'.get? it = some { cls := .type "list_iterator", data := .fields #[.ref l, .int (i + 1 : Nat) 0] } → Heap.SameBut it s.heap h' → Q x { s with heap := h' }) :
    wpAny (model prog w) A (call (.builtin "next") [.ref it]) Q E s := by
  obtain ⟨ol, hol, _, nl, hdl⟩ := hl
  have hit : s.heap.IsListIter it l i := ⟨_, ho, rfl, rfl⟩
  refine call_function_entry (by decide +kernel) (by decide +kernel) kdk_entry_next (kdk_args_next _) ?_
  unfold Builtin.«next»
  refine wpAny_bind (m := someArgs "next" 1 2 _) (wpAny_of_eq (a := [Value.ref it]) (by first | rfl | kernel_rfl!) ?_)
  dsimp only
  refine wpAny_bind (wpAny_specialOf (name := Str.ofString "__next__") hit.typeIs slot_listiter_next.lookup ?_)
  refine wpAny_ite_split (fun hab => absurd hab (by decide)) (fun _ => ?_)
  refine wpAny_bind (wpAny_callSpecial?_slot (name := Str.ofString "__next__") hit.typeIs slot_listiter_next
    (wpAny_call_entry slot_listiter_next hit.typeIs entry_listiter_next ?_ (args_listiter_next _)))
  show wpAny _ _ (field (.ref it) 0 >>= _) _ _ s
  refine wpAny_bind (wpAny_field ho rfl (x := .ref l) rfl ?_)
  show wpAny _ _ (if (Value.ref l == Value.none) = true then _ else _) _ _ s
  rw [if_neg (show ¬ ((Value.ref l == Value.none) = true) from Bool.false_ne_true)]
  show wpAny _ _ (field (.ref it) 1 >>= _) _ _ s
  refine wpAny_bind (wpAny_field ho rfl (x := .int i 0) rfl ?_)
  show wpAny _ _ (seqItems? (.ref l) >>= _) _ _ s
  refine wpAny_bind (wpAny_seqItems hol hdl ?_)
  simp only [Int.toNat_natCast, hx]
  refine wpAny_bind (wpAny_setField ho rfl (by simp) (wpAny_pure ⟨x, rfl, wpAny_pure ⟨_, rfl, hQ _ ?_ (Heap.SameBut.update ..)⟩⟩))
  exact Heap.get?_update_self _ ho rfl

theorem next_end {it l : Addr} {i : Nat} {items : Array Value} {Q : Value → Shared → Prop} (hh : A.handled = none) (ho : s.heap.get? it = some { cls := .type "list_iterator", data := .fields #[.ref l, .int i 0] })
    (hl : s.heap.IsList l items) (hx : items[i]? = none)
    (hE : ∀ h' e t, h'.get? e = some { cls := .type "StopIteration", data := .fields #[.ref t, .none, .none, .none, .bool false, .none] } → s.heap.get? e = none → (∀ b o, b ≠ it → s.heap.get? b = some o → h'.get? b = some o) → E (.ref e) { s with heap := h' }) :
    wpAny (model prog w) A (call (.builtin "next") [.ref it]) Q E s := by
  obtain ⟨ol, hol, _, nl, hdl⟩ := hl
  have hit : s.heap.IsListIter it l i := ⟨_, ho, rfl, rfl⟩
  refine call_function_entry (by decide +kernel) (by decide +kernel) kdk_entry_next (kdk_args_next _) ?_
  unfold Builtin.«next»
  refine wpAny_bind (m := someArgs "next" 1 2 _) (wpAny_of_eq (a := [Value.ref it]) (by first | rfl | kernel_rfl!) ?_)
  dsimp only
  refine wpAny_bind (wpAny_specialOf (name := Str.ofString "__next__") hit.typeIs slot_listiter_next.lookup ?_)
  refine wpAny_ite_split (fun hab => absurd hab (by decide)) (fun _ => ?_)
  refine wpAny_bind (wpAny_callSpecial?_slot (name := Str.ofString "__next__") hit.typeIs slot_listiter_next
    (wpAny_call_entry slot_listiter_next hit.typeIs entry_listiter_next ?_ (args_listiter_next _)))
  show wpAny _ _ (field (.ref it) 0 >>= _) _ _ s
  refine wpAny_bind (wpAny_field ho rfl (x := .ref l) rfl ?_)
  show wpAny _ _ (if (Value.ref l == Value.none) = true then _ else _) _ _ s
  rw [if_neg (show ¬ ((Value.ref l == Value.none) = true) from Bool.false_ne_true)]
  show wpAny _ _ (field (.ref it) 1 >>= _) _ _ s
  refine wpAny_bind (wpAny_field ho rfl (x := .int i 0) rfl ?_)
  show wpAny _ _ (seqItems? (.ref l) >>= _) _ _ s
  refine wpAny_bind (wpAny_seqItems hol hdl ?_)
  simp only [Int.toNat_natCast, hx]
  refine wpAny_bind (wpAny_rule (wpAny_bind (wpAny_setField ho rfl (by simp) ?_)))
  show wpAny _ _ (newExc (.type "StopIteration") [] >>= _) _ _ _
  refine wpAny_bind ?_
  simp only [newExc, newTuple]
  refine wpAny_bind (wpAny_newObj_type ?_ (by size_fits))
  refine wpAny_bind (m := firstArgMember _ _) (wpAny_of_eq (a := Value.none) (by first | rfl | (simp only [firstArgMember]; rfl)) ?_)
  refine wpAny_newObj_type ?_ (by size_fits)
  simp only [raiseNew]
  refine wpAny_bind (wpAny_handled ?_)
  rw [show A.in1.in1.handled = none from hh]
  refine wpAny_bind (wpAny_pure (wpAny_throw ?_))
  refine hE _ _ _ (Heap.get?_push_size _ rfl) ?_ (fun b o hb e => ?_)
  · refine Heap.get?_none_of_le ?_
    rw [Heap.size_push, Heap.size_after_update]; omega
  · exact Heap.get?_push_of_some _ (Heap.get?_push_of_some _ ((Heap.get?_update_other _ _ (Ne.symm hb)).trans e))
end
end Mine

open PySem PySem.W PySem.Spec PySem.Calls PyProof.Rows
set_option Elab.async false
set_option maxRecDepth 100000
set_option maxHeartbeats 8000000
namespace Mine
example : PySem.Challenge.rw_in0205_01 = PySem.Challenge.rw_in0205_01 ∧ hd.heap_39 = hd.heap_39 := by k_fill; exact ⟨rfl, rfl⟩
/-- a place where the walk shall stop -/
def Stop (P : Prop) : Prop := P
theorem Stop.go {P : Prop} (h : Stop P) : P := h
theorem stopQ {α : Type} {M : Model} {A : Around} {t : Sem α} {Q : α → Shared → Prop} {E : Value → Shared → Prop} {s : Shared} (h : wpAny M A t (fun a s' => Stop (Q a s')) (fun e s' => Stop (E e s')) s) : wpAny M A t Q E s := h
theorem Stop.mk {P : Prop} (h : P) : Stop P := h
local macro_rules | `(tactic| walk_at "exec While") => `(tactic| refine Stop.go ?_)
section
variable {prog : Program} {w : World} {A : Around} {E : Value → Shared → Prop} {s : Shared} {base : Heap} {L : Addr} {m : Str → Option Value} {rest news : List (Addr × Obj)}
theorem next_itemN {it l : Addr} {i : Nat} {items : Array Value} {x : Value} {Q : Value → Shared → Prop} (F : Fr base L s.heap m) (N : News base L s.heap ((it, { cls := .type "list_iterator", data := .fields #[.ref l, .int i 0] }) :: rest))
    (hne : ∀ p ∈ rest, p.1 ≠ it) (hl : base.IsList l items) (hx : items[i]? = some x)
    (hQ : ∀ h', Fr base L h' m → News base L h' ((it, { cls := .type "list_iterator", data := .fields #[.ref l, .int (i + 1 : Nat) 0] }) :: rest) → Q x { s with heap := h' }) :
    wpAny (model prog w) A (call (.builtin "next") [.ref it]) Q E s := by
  have hl' : s.heap.IsList l items := let ⟨o, ho, r⟩ := hl; ⟨o, F.keep _ _ ho, r⟩
  have hm := N _ (.head _)
  refine next_item hm.1 hl' hx fun h' ho hs => hQ h' (F.change hs hm.2.1 hm.2.2) fun p hp => ?_
  rcases List.mem_cons.mp hp with rfl | hp
  · exact ⟨ho, hm.2⟩
  · have hp' := N p (.tail _ hp)
    exact ⟨(hs.2 p.1 (hne p hp)).trans hp'.1, hp'.2⟩
theorem next_endN {it l : Addr} {i : Nat} {items : Array Value} {Q : Value → Shared → Prop} (_F : Fr base L s.heap m) (N : News base L s.heap ((it, { cls := .type "list_iterator", data := .fields #[.ref l, .int i 0] }) :: rest))
    (hh : A.handled = none) (hl : base.IsList l items) (hx : items[i]? = none)
    (hE : ∀ h' e t, h'.get? e = some { cls := .type "StopIteration", data := .fields #[.ref t, .none, .none, .none, .bool false, .none] } → s.heap.get? e = none → (∀ b o, b ≠ it → s.heap.get? b = some o → h'.get? b = some o) → E (.ref e) { s with heap := h' }) :
    wpAny (model prog w) A (call (.builtin "next") [.ref it]) Q E s :=
  next_end hh (N _ (.head _)).1 (let ⟨o, ho, r⟩ := hl; ⟨o, _F.keep _ _ ho, r⟩) hx hE
theorem callWith_bmN {pos : Pos} {u S : Addr} {env : Env} {e : Expr} {Q : Value → Shared → Prop} (hu : base.get? u = some (SC.bound S))
    (h : wpAny (model prog w) A (spliced (backTo pos (starEach [e] env))) (fun vs s₁ => base.StaysIn s₁.heap ∧ wpAny (model prog w) A (call (.ref u) ([] ++ vs)) Q E s₁) E s)
    (he : starEach [e] env = (false, eval e env) :: starEach [] env := by rfl) :
    wpAny (model prog w) A (callWith pos (.ref u) [] (backTo pos (starEach [e] env)) []) Q E s :=
  SC.callWith_bm (S := S) (wpAny_mono h (fun _ _ z => ⟨z.1 _ _ hu, z.2⟩) fun _ _ z => z) he rfl
theorem call_bmN {u S : Addr} {k : Int} {t : Tok} {f : Int → Bool} {Q : Value → Shared → Prop} (F : Fr base L s.heap m) (hu : base.get? u = some (SC.bound S)) (hS : ∃ so n, base.get? S = some so ∧ n < scanBound ∧ so.SetObjOf (intKind prog w) f n)
    (h : ∀ tk, Q (.bool (f k)) { s with toks := tk }) : wpAny (model prog w) A (call (.ref u) [.int k t]) Q E s := by
  obtain ⟨so, n, ho, hn, hso⟩ := hS
  have ho' := F.keep _ _ ho
  refine SC.call_bm (knd := intKind prog w) (F.keep _ _ hu) (intKind_is _ _ _ _) rfl (hso.setOf ho' hn) ho' hso.1.1 ?_ (h _)
  obtain ⟨_, es, ep, t, hd, _⟩ := hso
  unfold notCls; rw [hd]
end
abbrev nmN (x u : Addr) (vo : Option Value) : Str → Option Value := fun y => if y = Str.ofString "item" then vo else if y = Str.ofString "func" then some (.ref u) else List.lookup y [(Str.ofString "self", Value.ref x)].reverse
theorem nmN_0 (x u : Addr) : (fun y => if y = Str.ofString "func" then some (.ref u) else List.lookup y [(Str.ofString "self", Value.ref x)].reverse) = nmN x u none := by
  funext y
  unfold nmN
  by_cases h : y = Str.ofString "item"
  · subst h; rfl
  · rw [if_neg h]
theorem nmN_1 (x u : Addr) (v : Value) (vo : Option Value) : (fun y => if y = Str.ofString "item" then some v else nmN x u vo y) = nmN x u (some v) := by
  funext y
  unfold nmN
  by_cases h : y = Str.ofString "item"
  · rw [if_pos h, if_pos h]
  · rw [if_neg h, if_neg h, if_neg h]
local macro_rules | `(tactic| walk_at "call builtin:next") => `(tactic| first
  | (refine next_itemN (by k_asm) (by k_asm) (by assumption) (by assumption) (by assumption) ?_; intro h' F' N'; (try k_sweep))
  | (refine next_endN (by k_asm) (by k_asm) (by assumption) (by assumption) (by assumption) ?_; intro h' e' t' he1' he2' he3'))
local macro_rules | `(tactic| walk_at "callWith ref") => `(tactic| (refine callWith_bmN (by assumption) ?_))
local macro_rules | `(tactic| walk_at "And") => `(tactic| ((with_reducible show Heap.StaysIn _ _ ∧ _); k_dflt (refine ⟨Fr.keep (by k_asm), ?_⟩); try dsimp only [List.nil_append, List.cons_append]))
local macro_rules | `(tactic| walk_at "call ref") => `(tactic| (refine call_bmN (by k_asm) (by assumption) (by assumption) ?_; intro tk'))
theorem intsAre_at : ∀ {vs : List Value} {ns : List Int}, IntsAre vs ns → ∀ (j : Nat) (h : j < ns.length), ∃ t, vs[j]? = some (.int ns[j] t)
  | _, _, .nil, _, h => absurd h (by simp)
  | _, _, .cons n t _, 0, _ => ⟨t, rfl⟩
  | _, _, .cons n t r, j + 1, h => intsAre_at r j (by simpa using h)
theorem next_spec {w : World} {mg mb : Str → Option Value} {A : Around} {fl : List Env} {s : Shared} {Q E : Value → Shared → Prop} {x dx it u S a : Addr} {i : Nat} {f : Int → Bool} {vs : List Value} {xs : List Int}
   (G : Gd w mg mb (hideAll s.heap [it, x, dx])) (hf : Fms fl s.heap) (hA : A.frames = some fl) (hroom : A.depth < 900) (hh : A.handled = none)
   (ff : FF w s.heap x dx it u S a i f) (ha : s.heap.IsList a vs.toArray) (hxa : IntsAre vs xs) (hi : i ≤ xs.length)
   (hQ : ∀ j k t h' tk, j ≤ xs.length → (xs.drop i).filter (fun k => !f k) = k :: (xs.drop j).filter (fun k => !f k) → FF w h' x dx it u S a j f →
      (∀ b o, b ≠ it → s.heap.get? b = some o → h'.get? b = some o) → Q (.int k t) { s with heap := h', toks := tk })
   (hE : (xs.drop i).filter (fun k => !f k) = [] → ∀ e ob h' tk, h'.get? e = some ob → ob.cls = .type "StopIteration" → (∀ b o, b ≠ it → b ∉ fr fl → s.heap.get? b = some o → h'.get? b = some o) →
      (∀ b o, b ∈ fr fl → s.heap.get? b = some o → ∃ sl, h'.get? b = some { o with slots := sl }) → E (.ref e) { s with heap := h', toks := tk }) :
   wpAny (model P0 w) A (call (.ref 43) [.ref x]) Q E s := by
  obtain ⟨KX, T⟩ := G
  refine wpAny_call (enterP (base := hideAll s.heap [it, x, dx]) (binds := [(Str.ofString "self", .ref x)]) (fun b o e => of_hideAll _ e) T.nolimit (KX 43 _ rfl) rfl (codeRec_of KX (by rfl)) (by show A.depth < 1000; omega) (Nat.le_of_eq (hideAll_size _ _)) (BindsTo.of_eq rfl) (locs rfl) (fun L' h₁ eL F hk => ?_) (by decide))
  have nn : ∀ b o, s.heap.get? b = some o → b ≠ L' := fun b o e q => absurd (Heap.lt_size e) (by rw [q, eL]; exact Nat.lt_irrefl _)
  have N : News (hideAll s.heap [it, x, dx]) L' h₁ [(it, { cls := .type "list_iterator", data := .fields #[.ref a, .int i 0] }), (x, { cls := .ref 47, dict := some dx, data := .plain, slots := #[some (.ref u), some (.ref it)] }), (dx, dictOf [] 0)] := by
    intro p hp
    simp only [List.mem_cons, List.not_mem_nil, or_false] at hp
    rcases hp with rfl | rfl | rfl
    · exact ⟨hk _ _ ff.it_, nn _ _ ff.it_, hideAll_none _ (by simp)⟩
    · exact ⟨hk _ _ ff.x_, nn _ _ ff.x_, hideAll_none _ (by simp)⟩
    · exact ⟨hk _ _ ff.dx_, nn _ _ ff.dx_, hideAll_none _ (by simp)⟩
  all_goals try k_fold
  k_steps
  rename_i h2 F2 N2
  have hne : ∀ p ∈ [((x, { cls := .ref 47, dict := some dx, data := .plain, slots := #[some (.ref u), some (.ref it)] }) : Addr × Obj), (dx, dictOf [] 0)], p.1 ≠ it := by
    intro p hp
    simp only [List.mem_cons, List.not_mem_nil, or_false] at hp
    rcases hp with rfl | rfl
    · intro q; have := ff.x_; rw [show x = it from q, ff.it_] at this
      exact absurd (congrArg Obj.cls (Option.some.inj this)) (by intro z; cases z)
    · intro q; have := ff.dx_; rw [show dx = it from q, ff.it_] at this
      exact absurd (congrArg Obj.cls (Option.some.inj this)) (by show Value.type "list_iterator" ≠ Value.type "dict"; decide)
  have hnl : ∀ b o, s.heap.get? b = some o → o.cls ≠ .type "list_iterator" → o.cls ≠ .ref 47 → o.cls ≠ .type "dict" → (hideAll s.heap [it, x, dx]).get? b = some o := by
    intro b o e h1 h2 h3
    refine hideAll_get _ e fun hm => ?_
    simp only [List.mem_cons, List.not_mem_nil, or_false] at hm
    rcases hm with rfl | rfl | rfl
    · rw [ff.it_] at e; cases e; exact h1 rfl
    · rw [ff.x_] at e; cases e; exact h2 rfl
    · rw [ff.dx_] at e; cases e; exact h3 rfl
  have hu : (hideAll s.heap [it, x, dx]).get? u = some (SC.bound S) := hnl _ _ ff.u_ (by show Value.type "builtin_function_or_method" ≠ _; decide) (by show Value.type "builtin_function_or_method" ≠ _; decide) (by show Value.type "builtin_function_or_method" ≠ _; decide)
  have hS : ∃ so n, (hideAll s.heap [it, x, dx]).get? S = some so ∧ n < scanBound ∧ so.SetObjOf (intKind P0 w) f n := by
    obtain ⟨so, n, e, h1, h2⟩ := ff.S_
    exact ⟨so, n, hnl _ _ e (by rw [h2.1.1]; decide) (by rw [h2.1.1]; decide) (by rw [h2.1.1]; decide), h1, h2⟩
  have hal : (hideAll s.heap [it, x, dx]).IsList a vs.toArray := by
    obtain ⟨o, ho, hc, r⟩ := ha
    exact ⟨o, hnl _ _ ho (by rw [hc]; decide) (by rw [hc]; decide) (by rw [hc]; decide), hc, r⟩
  refine Stop.mk (wpAny_While ?_)
  refine codeAny_whileLoop (fun n s' => ∃ j h' tk vo, n = xs.length - j ∧ j ≤ xs.length ∧ (xs.drop j).filter (fun k => !f k) = (xs.drop i).filter (fun k => !f k) ∧ s' = { s with heap := h', toks := tk } ∧
      Fr (hideAll s.heap [it, x, dx]) L' h' (nmN x u vo) ∧
      News (hideAll s.heap [it, x, dx]) L' h' [(it, { cls := .type "list_iterator", data := .fields #[.ref a, .int (j : Nat) 0] }), (x, { cls := .ref 47, dict := some dx, data := .plain, slots := #[some (.ref u), some (.ref it)] }), (dx, dictOf [] 0)])
    (fun n s' hI => ?_) (xs.length - i) ⟨i, h2, _, none, rfl, hi, rfl, rfl, nmN_0 x u ▸ F2, N2⟩
  obtain ⟨j, h3, tk, vo, hn, hj, hfil, rfl, F3, N3⟩ := hI
  refine wpAny_passesOwn (by passes_own) ?_
  refine wpAny_mono (Q := fun b s₂ => b = true ∧ s₂ = { s with heap := h3, toks := tk }) (by refine isTrue_plain ?_; k_steps) (fun b s₂ hb => ?_) fun _ _ z => z
  obtain ⟨rfl, rfl⟩ := hb
  rw [if_pos rfl]
  refine wpAny_passesOwn (by passes_own) ?_
  rcases Nat.lt_or_ge j xs.length with hlt | hge
  · have hx : vs.toArray[j]? = vs[j]? := by simp
    obtain ⟨t, hv⟩ : ∃ t, vs[j]? = some (.int xs[j] t) := intsAre_at hxa j hlt
    rw [hv] at hx
    have hd := List.drop_eq_getElem_cons hlt
    have keepall : ∀ (h5 : Heap) (m5 : Str → Option Value), Fr (hideAll s.heap [it, x, dx]) L' h5 m5 → h5.get? x = some { cls := .ref 47, dict := some dx, data := .plain, slots := #[some (.ref u), some (.ref it)] } → h5.get? dx = some (dictOf [] 0) →
        ∀ b o, b ≠ it → s.heap.get? b = some o → h5.get? b = some o := by
      intro h5 m5 F5 e1 e2 b o hb e
      by_cases q1 : b = x
      · subst q1; rw [ff.x_] at e; rw [e1]; exact e
      · by_cases q2 : b = dx
        · subst q2; rw [ff.dx_] at e; rw [e2]; exact e
        · exact F5.keep b o (hideAll_get _ e (by simp [hb, q1, q2]))
    refine stopQ ?_
    k_steps
    · rename_i h4 h5 F5 N5 tk5 hfx
      refine Stop.mk ?_
      refine ⟨xs.length - (j + 1), by omega, j + 1, h5, _, some _, rfl, by omega, ?_, rfl, nmN_1 x u _ vo ▸ F5, N5⟩
      rw [← hfil, hd, List.filter_cons_of_neg (by rw [hfx]; decide)]
    · rename_i h4 h5 F5 N5 tk5 hfx
      show Q (.int xs[j] t) _
      refine hQ (j + 1) _ _ h5 _ (by omega) ?_ ⟨(N5 _ (.tail _ (.head _))).1, (N5 _ (.tail _ (.tail _ (.head _)))).1, (N5 _ (.head _)).1, F5.keep _ _ hu, ?_⟩ (keepall h5 _ F5 (N5 _ (.tail _ (.head _))).1 (N5 _ (.tail _ (.tail _ (.head _)))).1)
      · rw [← hfil, hd, List.filter_cons_of_pos (by rw [hfx]; decide)]
      · obtain ⟨so, n, e, r⟩ := hS
        exact ⟨so, n, F5.keep _ _ e, r⟩
  · have hx : vs.toArray[j]? = none := by
      have := IntsAre.length hxa
      simp only [List.getElem?_toArray]
      exact List.getElem?_eq_none (by omega)
    refine stopQ ?_
    k_steps
    rename_i h4 e t he1 he2 he3
    refine Stop.mk ?_
    have hd0 : xs.drop j = [] := List.drop_eq_nil_of_le hge
    rw [hd0] at hfil
    have ndict : ∀ b ∈ fr fl, b ≠ it ∧ b ≠ x ∧ b ≠ dx ∨ ∃ o es ep, s.heap.get? b = some o ∧ o.data = .dict es ep ∧ b = dx := fun b hb => by
      obtain ⟨o, es, ep, ho, hdd⟩ := hf.mem hb
      by_cases q : b = dx
      · exact .inr ⟨o, es, ep, ho, hdd, q⟩
      · refine .inl ⟨fun q' => ?_, fun q' => ?_, q⟩
        · subst q'; rw [ff.it_] at ho; cases ho; cases hdd
        · subst q'; rw [ff.x_] at ho; cases ho; cases hdd
    have k34 : ∀ b o, b ≠ it → s.heap.get? b = some o → h4.get? b = some o := by
      intro b o hb e0
      refine he3 b o hb ?_
      show h3.get? b = some o
      by_cases q1 : b = x
      · subst q1; rw [ff.x_] at e0; rw [(N3 _ (.tail _ (.head _))).1]; exact e0
      · by_cases q2 : b = dx
        · subst q2; rw [ff.dx_] at e0; rw [(N3 _ (.tail _ (.tail _ (.head _)))).1]; exact e0
        · exact F3.keep b o (hideAll_get _ e0 (by simp [hb, q1, q2]))
    have frit : ∀ b ∈ fr fl, b ≠ it := fun b hb q => by
      obtain ⟨o, es, ep, ho, hdd⟩ := hf.mem hb
      subst q; rw [ff.it_] at ho; cases ho; cases hdd
    have st4 : (hideAll s.heap (it :: fr fl)).StaysIn h4 := fun b o e0 => k34 b o (fun q => by rw [q, hideAll_none _ (.head _)] at e0; cases e0) (of_hideAll _ e0)
    have e3 : h3.get? e = none := he2
    have efr : (hideAll s.heap (it :: fr fl)).get? e = none := by
      cases q : (hideAll s.heap (it :: fr fl)).get? e with
      | none => rfl
      | some o =>
        exfalso
        have hit3 := (N3 _ (.head _)).1
        have hs := of_hideAll _ q
        by_cases q1 : e = x
        · subst q1; rw [(N3 _ (.tail _ (.head _))).1] at e3; cases e3
        · by_cases q2 : e = dx
          · subst q2; rw [(N3 _ (.tail _ (.tail _ (.head _)))).1] at e3; cases e3
          · by_cases q3 : e = it
            · subst q3; rw [hit3] at e3; cases e3
            · rw [F3.keep e o (hideAll_get _ hs (by simp [q1, q2, q3]))] at e3; cases e3
    have nL : s.heap.get? L' = none := by rw [eL]; exact Heap.get?_none_of_le (Nat.le_refl _)
    have Lit : L' ≠ it := fun q => by rw [q, ff.it_] at nL; cases nL
    have hLn : h4.Ns L' (nmN x u vo) := by
      obtain ⟨oL, es, ep, hL, r⟩ := F3.ns
      exact ⟨oL, es, ep, he3 _ _ Lit hL, r⟩
    have fm4 : Fms fl h4 := fun env he => by
      obtain ⟨hk', L0, o, es, ep, hL0, ho, hdd⟩ := hf env he
      exact ⟨hk', L0, o, es, ep, hL0, k34 _ _ (frit _ (List.mem_filterMap.mpr ⟨env, he, hL0⟩)) ho, hdd⟩
    have ff4 : h4.FunFrames (hideAll s.heap (it :: fr fl)) (envX (Str.ofString "filterfalse.__next__") { kind := ScopeKind.function, names := [(Str.ofString "self", NameKind.local), (Str.ofString "func", NameKind.local), (Str.ofString "item", NameKind.local), (Str.ofString "next", NameKind.globalImplicit), (Str.ofString "bool", NameKind.globalImplicit)], isGenerator := false, isCoroutine := false } L' 43 (Value.ref 42) [] :: fl) :=
      Heap.FunFrames.cons (by show ScopeKind.function ≠ ScopeKind.module; decide) rfl hLn (by
        cases q : (hideAll s.heap (it :: fr fl)).get? L' with
        | none => rfl
        | some o => have := of_hideAll _ q; rw [nL] at this; cases this) (fm4.fun_ fun b hb => hideAll_none _ (.tail _ hb))
    refine wpAny_leaving_firstW (base := hideAll s.heap (it :: fr fl)) (Around.frames_deeper hA) ff4 rfl he1 st4 efr rfl rfl rfl fun h6 hL6 => ?_
    obtain ⟨z1, _, ⟨oe, evs, _, _, _, z2, ⟨z3, _⟩, _⟩, z4⟩ := hL6
    refine hE hfil.symm e oe h6 _ z2 z3 (fun b o hb hbf e0 => z1 b o (hideAll_get _ e0 (by simp [hb, hbf]))) fun b o hbf e0 => ?_
    obtain ⟨o', es, ep, ho, hdd⟩ := hf.mem hbf
    rw [e0] at ho
    cases ho
    exact z4 b o (k34 b o (frit b hbf) e0) (fun vs q => by rw [hdd] at q; cases q)
end Mine

open PySem PySem.W PySem.Spec PySem.Calls PyProof.Rows
set_option Elab.async false
set_option maxRecDepth 100000
set_option maxHeartbeats 8000000
namespace Mine
example : PySem.Challenge.rw_in0205_01 = PySem.Challenge.rw_in0205_01 ∧ hd.heap_39 = hd.heap_39 := by k_fill; exact ⟨rfl, rfl⟩
theorem find_next (w : World) : findIn (hd.heap_39 w.params) (.ref 47) "__next__" = some (some (.ref 43)) := by k_is
theorem find_iter (w : World) : findIn (hd.heap_39 w.params) (.ref 47) "__iter__" = some (some (.ref 36)) := by k_is
theorem find_len (w : World) : findIn (hd.heap_39 w.params) (.ref 47) "__len__" = some none := by k_is
theorem find_hint (w : World) : findIn (hd.heap_39 w.params) (.ref 47) "__length_hint__" = some none := by k_is
theorem fn_next (w : World) : typeIn (hd.heap_39 w.params) (.ref 43) = some (.type "function") := by k_is
theorem fn_iter (w : World) : typeIn (hd.heap_39 w.params) (.ref 36) = some (.type "function") := by k_is
theorem FF.inst {w : World} {h : Heap} {x dx it u S a : Addr} {i : Nat} {f : Int → Bool} (ff : FF w h x dx it u S a i f) : InstAt h x { cls := .ref 47, dict := some dx, data := .plain, slots := #[some (.ref u), some (.ref it)] } 47 (some (dictOf [] 0)) :=
  ⟨ff.x_, rfl, rfl, ff.dx_⟩
theorem FF.kp {w : World} {h h' : Heap} {x dx it u S a : Addr} {i : Nat} {f : Int → Bool} (ff : FF w h x dx it u S a i f) (k : ∀ b o, (∀ es ep, o.data = .dict es ep → b = dx) → (∀ vs n, o.data ≠ .seq vs n) → h.get? b = some o → h'.get? b = some o) : FF w h' x dx it u S a i f := by
  obtain ⟨so, n, e, r1, r2⟩ := ff.S_
  obtain ⟨_, es, ep, t, hd, _⟩ := id r2
  exact ⟨k _ _ (fun _ _ q => by cases q) (fun _ _ q => by cases q) ff.x_, k _ _ (fun _ _ _ => rfl) (fun _ _ q => by cases q) ff.dx_, k _ _ (fun _ _ q => by cases q) (fun _ _ q => by cases q) ff.it_, k _ _ (fun _ _ q => by cases q) (fun _ _ q => by cases q) ff.u_, so, n,
    k _ _ (fun _ _ q => by rw [hd] at q; cases q) (fun _ _ q => by rw [hd] at q; cases q) e, r1, r2⟩
/-- all is kept but ex; frames up to their slots -/
structure KpB (ex : List Addr) (fl : List Env) (h h' : Heap) : Prop where
  keep : ∀ b o, b ∉ ex → b ∉ fr fl → h.get? b = some o → h'.get? b = some o
  up : ∀ b o, b ∈ fr fl → h.get? b = some o → ∃ sl, h'.get? b = some { o with slots := sl }
theorem KpB.trans {ex : List Addr} {fl : List Env} {h₁ h₂ h₃ : Heap} (x : KpB ex fl h₁ h₂) (y : KpB ex fl h₂ h₃) : KpB ex fl h₁ h₃ :=
  ⟨fun b o e n q => y.keep b o e n (x.keep b o e n q), fun b o n q => let ⟨_, e₁⟩ := x.up b o n q; let ⟨sl, e₂⟩ := y.up b _ n e₁; ⟨sl, e₂⟩⟩

section
variable {w : World} {mg mb : Str → Option Value} {A : Around} {fl : List Env} {E : Value → Shared → Prop}
theorem gd_ff {b₀ h : Heap} {x dx it : Addr} (G : Gd w mg mb b₀) (st : b₀.StaysIn h) (n1 : b₀.get? it = none) (n2 : b₀.get? x = none) (n3 : b₀.get? dx = none) : Gd w mg mb (hideAll h [it, x, dx]) :=
  G.keeps fun b o e => hideAll_get _ (st b o e) fun hm => by
    simp only [List.mem_cons, List.not_mem_nil, or_false] at hm
    rcases hm with rfl | rfl | rfl
    · rw [n1] at e; cases e
    · rw [n2] at e; cases e
    · rw [n3] at e; cases e

/-- one draw from a filterfalse -/
theorem pyNext_ff {s : Shared} {Q : Option Value → Shared → Prop} {b₀ : Heap} {x dx it u S a : Addr} {i : Nat} {f : Int → Bool} {vs : List Value} {xs : List Int}
   (G : Gd w mg mb b₀) (st : b₀.StaysIn s.heap) (n1 : b₀.get? it = none) (n2 : b₀.get? x = none) (n3 : b₀.get? dx = none)
   (hf : Fms fl s.heap) (hA : A.frames = some fl) (hroom : A.depth < 900) (hh : A.handled = none)
   (ff : FF w s.heap x dx it u S a i f) (ha : s.heap.IsList a vs.toArray) (hxa : IntsAre vs xs) (hi : i ≤ xs.length)
   (hQ : ∀ j k t h' tk, j ≤ xs.length → (xs.drop i).filter (fun k => !f k) = k :: (xs.drop j).filter (fun k => !f k) → FF w h' x dx it u S a j f →
      (∀ b o, b ≠ it → s.heap.get? b = some o → h'.get? b = some o) → Q (some (.int k t)) { s with heap := h', toks := tk })
   (hE : (xs.drop i).filter (fun k => !f k) = [] → ∀ h' tk, KpB [it] fl s.heap h' → Q none { s with heap := h', toks := tk }) :
   wpAny (model P0 w) A (pyNext (.ref x)) Q E s := by
  have X : (hd.heap_39 w.params).In s.heap := G.X.keeps st
  unfold pyNext
  refine wpAny_bind (wpAny_attempt (special_fn (name := "__next__") (args := []) X ff.inst (find_next w) (fn_next w) ?_))
  refine next_spec (mg := mg) (mb := mb) (fl := fl) (gd_ff G st n1 n2 n3) hf hA hroom hh ff ha hxa hi (fun j k t h' tk h1 h2 h3 h4 => wpAny_pure (hQ j k t h' tk h1 h2 h3 h4)) fun h0 e ob h' tk e1 e2 e3 e4 => ?_
  refine wpAny_bind (wpAny_isInstance (T := "StopIteration") (b := true) ⟨ob, e1, e2⟩ isSubtype_stop ?_)
  exact wpAny_pure (hE h0 h' tk ⟨fun b o n q r => e3 b o (fun z => n (by simp [z])) q r, e4⟩)

theorem loop_ff {R : Result → Shared → Prop} {b₀ : Heap} {x dx it u S a T : Addr} {f : Int → Bool} {vs : List Value} {xs : List Int} {res : Value}
   (G : Gd w mg mb b₀) (n1 : b₀.get? it = none) (n2 : b₀.get? x = none) (n3 : b₀.get? dx = none) (n4 : b₀.get? T = none)
   (hA : A.frames = some fl) (hroom : A.depth < 900) (hh : A.handled = none) (hxa : IntsAre vs xs) (hlen : xs.length ≤ 64) :
   ∀ (l : List Int) (i : Nat) (s : Shared) (acc : Array Value) (ps : List Int) (c : Nat), (xs.drop i).filter (fun k => !f k) = l → i ≤ xs.length → ps.length + l.length ≤ 64 →
     b₀.StaysIn s.heap → Fms fl s.heap → FF w s.heap x dx it u S a i f → s.heap.IsList a vs.toArray → a ≠ T → s.heap.get? T = some { cls := .type "list", data := .seq acc c } → IntsAre acc.toList ps →
     (∀ h' tk acc' c', KpB [it, T] fl s.heap h' → h'.get? T = some { cls := .type "list", data := .seq acc' c' } → IntsAre acc'.toList (ps ++ l) → R (.ok (.ret res)) { s with heap := h', toks := tk }) →
     codeAny (model P0 w) A (.builtin "list.extend.loop" ⟨[.ref T, .ref x, res], []⟩) R s := by
  intro l
  induction l with
  | nil =>
    intro i s acc ps c hl hi hpl st hf ff ha haT hT hacc hR
    have Tfr : T ∉ fr fl := hf.not_mem hT fun _ _ q => by cases q
    have Tit : T ≠ it := fun q => by have := ff.it_; rw [← q, hT] at this; exact absurd (congrArg Obj.cls (Option.some.inj this)) (by show Value.type "list" ≠ Value.type "list_iterator"; decide)
    refine codeAny_builtin F.entry_extend_loop ?_
    rw [Around.under_plainId F.plain_extend_loop _]
    show wpAny _ A.in1 (pyNext (.ref x) >>= _) _ _ s
    refine wpAny_bind (pyNext_ff G st n1 n2 n3 hf hA hroom hh ff ha hxa hi (fun j k t h' tk h1 h2 h3 h4 => ?_) fun h0 h' tk K => ?_)
    · rw [hl] at h2; cases h2
    · exact wpAny_pure (hR h' tk acc c ⟨fun b o n q r => K.keep b o (fun z => n (by simp at z; simp [z])) q r, K.up⟩ (K.keep _ _ (by simpa using Tit) Tfr hT) (by rw [List.append_nil]; exact hacc))
  | cons k0 l ih =>
    intro i s acc ps c hl hi hpl st hf ff ha haT hT hacc hR
    have Tfr : T ∉ fr fl := hf.not_mem hT fun _ _ q => by cases q
    have Tit : T ≠ it := fun q => by have := ff.it_; rw [← q, hT] at this; exact absurd (congrArg Obj.cls (Option.some.inj this)) (by show Value.type "list" ≠ Value.type "list_iterator"; decide)
    refine codeAny_builtin F.entry_extend_loop ?_
    rw [Around.under_plainId F.plain_extend_loop _]
    show wpAny _ A.in1 (pyNext (.ref x) >>= _) _ _ s
    refine wpAny_bind (pyNext_ff G st n1 n2 n3 hf hA hroom hh ff ha hxa hi (fun j k t h' tk h1 h2 h3 h4 => ?_) fun h0 h' tk K => ?_)
    · rw [hl] at h2
      obtain ⟨e0, h2'⟩ := List.cons.inj h2
      subst e0
      have hT' := h4 _ _ Tit hT
      have haccl : acc.size = ps.length := by rw [← Array.length_toList]; exact IntsAre.length hacc
      show wpAny _ A.in1 (updateSeq T (·.push (.int k0 t)) >>= _) _ _ _
      refine wpAny_bind (wpAny_updateSeq hT' rfl ?_ (by rw [sizeLine_eq]; omega) (by show (acc.push (.int k0 t)).size ≤ sizeLine + 1; rw [Array.size_push, sizeLine_eq]; omega))
      have other : ∀ b o, b ≠ T → h'.get? b = some o → (h'.update T (Obj.mapSeq (·.push (.int k0 t)))).get? b = some o := fun b o hb e => (Heap.get?_update_other _ _ (Ne.symm hb)).trans e
      have hTT := Heap.get?_update_self (Obj.mapSeq (·.push (Value.int k0 t))) hT' rfl
      refine wpAny_pure ⟨plainId_quiet F.plain_extend_loop _, ih j _ (acc.push (.int k0 t)) (ps ++ [k0]) _ h2'.symm h1 (by simp only [List.length_append, List.length_cons, List.length_nil] at hpl ⊢; omega) ?_ ?_ ?_ ?_ haT hTT ?_ ?_⟩
      · intro b o e
        have bT : b ≠ T := fun q => by rw [q, n4] at e; cases e
        have bit : b ≠ it := fun q => by rw [q, n1] at e; cases e
        exact other b o bT (h4 b o bit (st b o e))
      · intro env he
        obtain ⟨hk', L0, o, es, ep, hL0, ho, hdd⟩ := hf env he
        have m0 : L0 ∈ fr fl := List.mem_filterMap.mpr ⟨env, he, hL0⟩
        refine ⟨hk', L0, o, es, ep, hL0, other _ _ (fun q => Tfr (q ▸ m0)) (h4 _ _ (fun q => ?_) ho), hdd⟩
        rw [q, ff.it_] at ho; cases ho; cases hdd
      · exact h3.kp fun b o _ hns e => other b o (fun q => by rw [q, hT'] at e; cases e; exact hns _ _ rfl) e
      · obtain ⟨o, ho, hc, r⟩ := ha
        exact ⟨o, other _ _ haT (h4 _ _ (fun q => by rw [q, ff.it_] at ho; rw [← Option.some.inj ho] at hc; exact absurd hc (by show Value.type "list_iterator" ≠ Value.type "list"; decide)) ho), hc, r⟩
      · rw [Array.toList_push]; exact hacc.append (.cons _ _ .nil)
      · intro h'' tk'' acc'' c'' K hT'' hacc''
        refine hR h'' tk'' acc'' c'' ⟨fun b o n q r => K.keep b o n q (other b o (fun z => n (by simp [z])) (h4 b o (fun z => n (by simp [z])) r)), fun b o q r => ?_⟩ hT'' (by rw [List.append_assoc] at hacc''; exact hacc'')
        refine K.up b o q (other b o (fun z => Tfr (z ▸ q)) (h4 b o (fun z => ?_) r))
        obtain ⟨o', es, ep, ho', hdd⟩ := hf.mem q
        rw [z, ff.it_] at ho'; cases ho'; cases hdd
    · rw [hl] at h0; cases h0
end
end Mine

open PySem PySem.W PySem.Spec PySem.Calls PyProof.Rows
set_option Elab.async false
set_option maxRecDepth 100000
set_option maxHeartbeats 8000000
namespace Mine
example : PySem.Challenge.rw_in0205_01 = PySem.Challenge.rw_in0205_01 ∧ hd.heap_39 = hd.heap_39 := by k_fill; exact ⟨rfl, rfl⟩
section
variable {w : World} {mg mb : Str → Option Value} {A : Around} {fl : List Env} {E : Value → Shared → Prop}
theorem iter_spec {s : Shared} {Q : Value → Shared → Prop} {x : Addr} (G : Gd w mg mb s.heap) (hroom : A.depth < 900)
   (hQ : ∀ h' tk, s.heap.StaysIn h' → Q (.ref x) { s with heap := h', toks := tk }) : wpAny (model P0 w) A (call (.ref 36) [.ref x]) Q E s := by
  obtain ⟨KX, T⟩ := G
  refine wpAny_call (enterP (base := s.heap) (binds := [(Str.ofString "self", .ref x)]) (fun b o e => e) T.nolimit (KX 36 _ rfl) rfl (codeRec_of KX (by rfl)) (by show A.depth < 1000; omega) (Nat.le_refl _) (BindsTo.of_eq rfl) (locs rfl) (fun L' h₁ eL F hk => ?_) (by decide))
  have N : News s.heap L' h₁ [] := News.nil
  refine stopQ ?_
  k_steps
  show Q (.ref x) _
  exact hQ _ _ hk

theorem pyIter_ff {s : Shared} {Q : Value → Shared → Prop} {x dx it u S a : Addr} {i : Nat} {f : Int → Bool} (G : Gd w mg mb s.heap) (hroom : A.depth < 890) (ff : FF w s.heap x dx it u S a i f)
   (hQ : ∀ h' tk, s.heap.StaysIn h' → Q (.ref x) { s with heap := h', toks := tk }) : wpAny (model P0 w) A (pyIter (.ref x)) Q E s := by
  have X := G.X
  have I := ff.inst
  have h : wpAny (model P0 w) A (call (.ref 36) [.ref x]) (fun v s' => v = .ref x ∧ wpAny (model P0 w) A (specialOf (.ref x) "__next__") (fun r s₂ => ∃ g, r = some g ∧ Q (.ref x) s₂) E s') E s := by
    refine iter_spec G (by omega) fun h' tk k => ⟨rfl, ?_⟩
    have I' : InstAt h' x _ 47 (some (dictOf [] 0)) := (ff.kp fun b o _ _ e => k b o e).inst
    exact wpAny_bind (I'.type.here ((looks_findIn (X.keeps k) (find_next w)).here ⟨_, rfl, hQ h' tk k⟩))
  have fin : wpAny (model P0 w) A (call (.ref 36) [.ref x] >>= fun v => pure (some v)) (fun r s' => r = some (.ref x) ∧ wpAny (model P0 w) A (specialOf (.ref x) "__next__") (fun r s₂ => ∃ g, r = some g ∧ Q (.ref x) s₂) E s') E s :=
    wpAny_bind (wpAny_mono h (fun v s' h' => wpAny_pure ⟨by rw [h'.1], h'.2⟩) fun _ _ z => z)
  have one : ∀ refuse : Sem Value, wpAny (model P0 w) A (callSpecialIfBoundUnlessNone? (.ref x) "__iter__" refuse) (fun r s' => r = some (.ref x) ∧ wpAny (model P0 w) A (specialOf (.ref x) "__next__") (fun r s₂ => ∃ g, r = some g ∧ Q (.ref x) s₂) E s') E s := by
    intro refuse
    simp only [callSpecialIfBoundUnlessNone?, bindSpecialIfBound?]
    refine wpAny_holding (wpAny_bind (wpAny_bind (wpAny_bind (I.type.here ((looks_findIn X (find_iter w)).here ?_)))))
    refine wpAny_bind (wpAny_askSetting (wpAny_ite ?_))
    have fin2 : wpAny (model P0 w) A (if (Value.ref 36 == Value.none) = true then (refuse >>= fun v => pure (some v)) else (call (.ref 36) [.ref x] >>= fun v => pure (some v))) (fun r s' => r = some (.ref x) ∧ wpAny (model P0 w) A (specialOf (.ref x) "__next__") (fun r s₂ => ∃ g, r = some g ∧ Q (.ref x) s₂) E s') E s := by
      rw [if_neg (show ¬ ((Value.ref 36 == Value.none) = true) from Bool.false_ne_true)]
      exact fin
    split
    · exact wpAny_bind ((bind_fn X _ (fn_iter w)).here (wpAny_pure (by exact fin2)))
    · exact wpAny_tryCatch (wpAny_bind ((bind_fn X _ (fn_iter w)).here (wpAny_pure (by exact fin2))))
  unfold pyIter
  refine wpAny_bind (wpAny_bind (I.type.here ((looks_findIn X (find_iter w)).here ?_)))
  show wpAny (model P0 w) A (callSpecialIfBoundUnlessNone? (.ref x) "__iter__" _ >>= _) Q E s
  refine wpAny_bind (wpAny_mono (one _) (fun r s' hr => ?_) fun _ _ z => z)
  obtain ⟨rfl, hv⟩ := hr
  refine wpAny_bind (wpAny_mono hv (fun r s₂ hr => ?_) fun _ _ z => z)
  obtain ⟨g, rfl, hr⟩ := hr
  exact wpAny_pure hr

theorem list_ff {s : Shared} {Q : Value → Shared → Prop} {b₀ : Heap} {x dx it u S a : Addr} {f : Int → Bool} {vs : List Value} {xs : List Int}
   (G : Gd w mg mb b₀) (st : b₀.StaysIn s.heap) (n1 : b₀.get? it = none) (n2 : b₀.get? x = none) (n3 : b₀.get? dx = none)
   (hf : Fms fl s.heap) (hA : A.frames = some fl) (hroom : A.depth < 890) (hh : A.handled = none)
   (ff : FF w s.heap x dx it u S a 0 f) (ha : s.heap.IsList a vs.toArray) (hxa : IntsAre vs xs) (hlen : xs.length ≤ 64)
   (hQ : ∀ h' tk D acc c, KpB [it] fl s.heap h' → s.heap.get? D = none → h'.get? D = some { cls := .type "list", data := .seq acc c } → IntsAre acc.toList (xs.filter (fun k => !f k)) → Q (.ref D) { s with heap := h', toks := tk }) :
   wpAny (model P0 w) A (call (.type "list") [.ref x]) Q E s := by
  refine callType_codes (Q₁ := fun obj s₁ => obj = .ref s.heap.objs.size ∧ s₁ = { s with heap := s.heap.push { cls := .type "list", data := .seq #[] } }) F.called_list (F.typeCall_list_1 _) F.entry_list_init
    (code_list_new _ ⟨rfl, rfl⟩) fun obj s₁ h₁ => ?_
  obtain ⟨rfl, rfl⟩ := h₁
  have hS : (s.heap.push { cls := .type "list", data := .seq #[] }).get? s.heap.objs.size = some { cls := .type "list", data := .seq #[] } := Heap.get?_push_size _ rfl
  have Tn : s.heap.get? s.heap.objs.size = none := Heap.get?_none_of_le (Nat.le_refl _)
  have other1 : s.heap.StaysIn (s.heap.push { cls := .type "list", data := .seq #[] }) := fun b o e => Heap.get?_push_of_some _ e
  refine ⟨⟨_, hS, rfl⟩, F.args_list_init_2 _ _, ?_⟩
  show wpAny _ A.in1.in1 (do let old ← Builtin.List.listItems (.ref s.heap.objs.size); Builtin.List.listUpdate (.ref s.heap.objs.size) (fun _ => #[]); letGo old.toList.reverse; Builtin.List.listExtendWith (.ref s.heap.objs.size) (.ref x) .none) _ _ _
  refine wpAny_bind ?_
  unfold Builtin.List.listItems
  refine wpAny_bind (wpAny_seqItems hS rfl (wpAny_pure ?_))
  show wpAny _ A.in1.in1 (updateSeq s.heap.objs.size (fun _ => #[]) >>= fun _ => letGo (#[] : Array Value).toList.reverse >>= fun _ => Builtin.List.listExtendWith (.ref s.heap.objs.size) (.ref x) .none) _ _ _
  refine wpAny_bind (wpAny_updateSeq hS rfl ?_)
  have hS₂ := Heap.get?_update_self (Obj.mapSeq (fun _ => (#[] : Array Value))) hS rfl
  have other2 : ∀ b o, b ≠ s.heap.objs.size → s.heap.get? b = some o → ((s.heap.push { cls := .type "list", data := .seq #[] }).update s.heap.objs.size (Obj.mapSeq (fun _ => (#[] : Array Value)))).get? b = some o :=
    fun b o hb e => (Heap.get?_update_other _ _ (Ne.symm hb)).trans (other1 b o e)
  have k2 : s.heap.StaysIn ((s.heap.push { cls := .type "list", data := .seq #[] }).update s.heap.objs.size (Obj.mapSeq (fun _ => (#[] : Array Value)))) := fun b o e => other2 b o (fun q => by rw [q, Tn] at e; cases e) e
  refine wpAny_bind (wpAny_letGo ?_)
  generalize hh2 : (s.heap.push { cls := .type "list", data := .seq #[] }).update s.heap.objs.size (Obj.mapSeq (fun _ => (#[] : Array Value))) = h2 at hS₂ k2
  clear other2 hh2
  generalize hT : s.heap.objs.size = T at *
  have X2 : (hd.heap_39 w.params).In h2 := G.X.keeps fun b o e => k2 b o (st b o e)
  have ff2 : FF w h2 x dx it u S a 0 f := ff.kp fun b o _ _ e => k2 b o e
  have Tx : T ≠ x := fun q => by rw [q, ff.x_] at Tn; cases Tn
  unfold Builtin.List.listExtendWith
  refine wpAny_bind (ff2.inst.type.here ?_)
  have h1 : Builtin.List.listSameRef (.ref T) (.ref x) = false := by simp [Builtin.List.listSameRef, Tx]
  have h2' : (Value.ref 47 == Value.type "list") = false := by decide
  have h3' : (Value.ref 47 == Value.type "tuple") = false := by decide
  simp only [h1, h2', h3', Bool.or_false, Bool.false_eq_true, if_false]
  have G2 : Gd w mg mb h2 := G.keeps fun b o e => k2 b o (st b o e)
  refine wpAny_bind (pyIter_ff (mg := mg) (mb := mb) (s := { s with heap := h2 }) G2 hroom ff2 fun h3 tk k3 => ?_)
  have k23 : s.heap.StaysIn h3 := fun b o e => k3 b o (k2 b o e)
  have ff3 : FF w h3 x dx it u S a 0 f := ff.kp fun b o _ _ e => k23 b o e
  have X3 : (hd.heap_39 w.params).In h3 := X2.keeps k3
  have hT3 := k3 _ _ hS₂
  refine wpAny_bind (wpAny_holding ?_)
  unfold Builtin.List.listLengthHint
  refine wpAny_bind (wpAny_bind (ff3.inst.type.here ((looks_findIn X3 (find_len w)).here ?_)))
  refine wpAny_bind (wpAny_bind (ff3.inst.type.here ((looks_findIn X3 (find_hint w)).here ?_)))
  refine wpAny_pure ?_
  show wpAny _ A.in1.in1 (rule "list.extend.makes-room" >>= fun _ => Builtin.List.listTouch (.ref T) >>= fun _ =>
    again (.builtin "list.extend.loop" ⟨[.ref T, .ref x, .none], []⟩)) _ _ _
  refine wpAny_bind (wpAny_rule ?_)
  refine wpAny_bind ?_
  show wpAny _ A.in1.in1 (updateSeq T (·.push .none) >>= fun _ => updateSeq T (·.pop)) _ _ _
  refine wpAny_bind (wpAny_updateSeq hT3 rfl ?_)
  have hS₄ := Heap.get?_update_self (Obj.mapSeq (·.push Value.none)) hT3 rfl
  refine wpAny_updateSeq (hz := by seq_fits) hS₄ rfl ?_
  have hS₅ := Heap.get?_update_self (Obj.mapSeq (·.pop)) hS₄ rfl
  have oth : ∀ b o, b ≠ T → h3.get? b = some o → ((h3.update T (Obj.mapSeq (·.push Value.none))).update T (Obj.mapSeq (·.pop))).get? b = some o :=
    fun b o hb e => (Heap.get?_update_other _ _ (Ne.symm hb)).trans ((Heap.get?_update_other _ _ (Ne.symm hb)).trans e)
  have k25 : s.heap.StaysIn ((h3.update T (Obj.mapSeq (·.push Value.none))).update T (Obj.mapSeq (·.pop))) := fun b o e => oth b o (fun q => by rw [q, Tn] at e; cases e) (k23 b o e)
  have n4 : b₀.get? T = none := by
    cases q : b₀.get? T with
    | none => rfl
    | some o => have := st T o q; rw [Tn] at this; cases this
  have hS₆ : ((h3.update T (Obj.mapSeq (·.push Value.none))).update T (Obj.mapSeq (·.pop))).get? T = some { cls := .type "list", data := .seq #[] 2 } := hS₅
  clear hS₅ hS₄ oth
  generalize (h3.update T (Obj.mapSeq (·.push Value.none))).update T (Obj.mapSeq (·.pop)) = h5 at hS₆ k25
  refine wpAny_pure ⟨plainId_quiet F.plain_extend_loop _, ?_⟩
  refine loop_ff (A := A.in1) (fl := fl) (f := f) (T := T) G n1 n2 n3 n4 hA (by show A.depth < 900; omega) hh hxa hlen _ 0 { s with heap := h5, toks := tk } #[] [] 2 rfl (Nat.zero_le _) ?_ (fun b o e => k25 b o (st b o e)) (hf.stays k25) (ff.kp fun b o _ _ e => k25 b o e) ?_ ?_ hS₆ .nil ?_
  · have := List.length_filter_le (fun k => !f k) (xs.drop 0)
    simp only [List.drop_zero, List.length_nil] at this ⊢
    omega
  · exact isList_any (fun b o e => ⟨o.slots, k25 b o e⟩) ha
  · intro q
    obtain ⟨o, ho, _⟩ := ha
    rw [q, Tn] at ho; cases ho
  · intro h' tk' acc' c' K hT' hacc'
    have hfin : KpB [it] fl s.heap h' := ⟨fun b o n q r => K.keep b o (fun z => by
        simp only [List.mem_cons, List.not_mem_nil, or_false] at z n
        rcases z with z | z
        · exact n z
        · rw [z, Tn] at r; cases r) q (k25 b o r), fun b o q r => K.up b o q (k25 b o r)⟩
    refine ⟨rfl, ?_⟩
    exact hQ h' tk' T acc' c' hfin Tn hT' (by simpa using hacc')
end
end Mine

open PySem PySem.W PySem.Spec PySem.Calls PyProof.Rows
set_option Elab.async false
set_option maxRecDepth 100000
set_option maxHeartbeats 8000000
namespace Mine
example : PySem.Challenge.rw_in0205_01 = PySem.Challenge.rw_in0205_01 ∧ hd.heap_39 = hd.heap_39 := by k_fill; exact ⟨rfl, rfl⟩
section
variable {prog : Program} {w : World} {mg mb : Str → Option Value} {A : Around} {fl : List Env} {E : Value → Shared → Prop} {s : Shared}
theorem add_raw {l b : Addr} {vs ws : List Value} {Q : Value → Shared → Prop} (hl : s.heap.IsList l vs.toArray) (hb : s.heap.IsList b ws.toArray)
    (h : Q (.ref s.heap.objs.size) { s with heap := s.heap.push { cls := .type "list", data := .seq (vs ++ ws).toArray } }) (hsz : vs.length + ws.length ≤ sizeLine) :
    wpAny (model prog w) A (binaryOp .Add (.ref l) (.ref b)) Q E s := by
  obtain ⟨⟨cls, dd, data, sl⟩, ho, hc, n, hd⟩ := id hl
  obtain ⟨⟨cls2, dd2, data2, sl2⟩, ho2, hc2, n2, hd2⟩ := id hb
  simp only at hc hd hc2 hd2
  subst hc hd hc2 hd2
  have e : vs.toArray ++ ws.toArray = (vs ++ ws).toArray := by simp
  refine concat_meets ⟨_, ho, rfl⟩ ⟨_, ho2, rfl⟩ noFill_list_add seq_list_add PySem.F.slot_list_add PySem.F.entry_list_add (PySem.F.args_list_add_2 _ _) (list_addW l b vs.toArray ws.toArray n n2 dd dd2 sl sl2 (by simpa using hsz)) ⟨ho, ho2, ?_⟩
  rw [e]
  exact h
/-- a step within a frame that is no part of what stood -/
theorem Kp.step {env : Env} {L : Addr} {ex : List Addr} {h₀ h h' : Heap} (k : Kp fl h₀ h) (b : KpB ex (env :: fl) h h') (n : ∀ x ∈ ex, h₀.get? x = none) (hL : env.frame = some L) (nL : h₀.get? L = none) : Kp fl h₀ h' := by
  have mem : ∀ c, c ∈ fr (env :: fl) ↔ c = L ∨ c ∈ fr fl := fun c => by unfold fr; rw [List.filterMap_cons, hL]; exact List.mem_cons
  refine ⟨fun c o e nf => b.keep c o (fun q => by rw [n c q] at e; cases e) (fun q => ?_) (k.keep c o e nf), fun c o e mf => ?_⟩
  · rcases (mem c).mp q with q | q
    · rw [q, nL] at e; cases e
    · exact nf q
  · obtain ⟨sl, e1⟩ := k.up c o e mf
    obtain ⟨sl', e2⟩ := b.up c _ ((mem c).mpr (.inr mf)) e1
    exact ⟨sl', e2⟩
theorem Kp.stays {h₀ h h' : Heap} (k : Kp fl h₀ h) (st : h.StaysIn h') : Kp fl h₀ h' := k.trans (.of_stays st)
/-- the frame behind such a step -/
theorem frStep {env : Env} {L : Addr} {ex : List Addr} {h₀ h h' : Heap} {m : Str → Option Value} (F : Fr (gnd fl h₀) L h m) (b : KpB ex (env :: fl) h h') (n : ∀ x ∈ ex, h₀.get? x = none) (hL : env.frame = some L) (nL : h₀.get? L = none) : Fr (gnd fl h₀) L h' m := by
  have mem : ∀ c, c ∈ fr (env :: fl) ↔ c = L ∨ c ∈ fr fl := fun c => by unfold fr; rw [List.filterMap_cons, hL]; exact List.mem_cons
  obtain ⟨oL, es, ep, ho, r⟩ := F.ns
  obtain ⟨sl, e⟩ := b.up L _ ((mem L).mpr (.inl rfl)) ho
  refine ⟨⟨_, es, ep, e, r⟩, fun c o e => b.keep c o (fun q => ?_) (fun q => ?_) (F.keep c o e), F.above⟩
  · have := gnd_of e; rw [n c q] at this; cases this
  · rcases (mem c).mp q with q | q
    · have := gnd_of e; rw [q, nL] at this; cases this
    · exact gnd_not e q
theorem Fms.push {env : Env} {L : Addr} {h : Heap} {m : Str → Option Value} (x : Fms fl h) (hk : env.scope.kind ≠ .module) (hL : env.frame = some L) (ns : h.Ns L m) : Fms (env :: fl) h := by
  obtain ⟨oL, es, ep, ho, hd, _⟩ := ns
  intro e he
  rcases List.mem_cons.mp he with rfl | he
  · exact ⟨hk, L, oL, es, ep, hL, ho, hd⟩
  · exact x e he
/-- a list that stands through such a step -/
theorem KpB.list {ex : List Addr} {h h' : Heap} (b : KpB ex fl h h') (f : Fms fl h) {D : Addr} {its : Array Value} (hD : h.IsList D its) (n : D ∉ ex) : h'.IsList D its := by
  obtain ⟨o, ho, hc, k, hd⟩ := hD
  exact ⟨o, b.keep D o n (f.not_mem ho fun _ _ q => by rw [hd] at q; cases q) ho, hc, k, hd⟩
end
def bothL (xs ys : List Int) : List Int := xs.filter (fun k => !(ys.any (· == k))) ++ ys.filter (fun k => !(xs.any (· == k)))
theorem both_spec {w : World} {mg mb : Str → Option Value} {A : Around} {fl : List Env} {s : Shared} {Q E : Value → Shared → Prop} {a b : Addr} {vs ws : List Value} {xs ys : List Int}
   (G : Ok w mg mb fl s.heap) (hA : A.frames = some fl) (hroom : A.depth < 880) (hh : A.handled = none)
   (ha : s.heap.IsList a vs.toArray) (hxa : IntsAre vs xs) (hb : s.heap.IsList b ws.toArray) (hyb : IntsAre ws ys) (hla : xs.length ≤ 64) (hlb : ys.length ≤ 64)
   (hQ : ∀ h' tk D zs, Kp fl s.heap h' → s.heap.get? D = none → h'.IsList D zs.toArray → IntsAre zs (bothL xs ys) → Q (.ref D) { s with heap := h', toks := tk }) :
   wpAny (model P0 w) A (call (.ref 70) [.ref a, .ref b]) Q E s := by
  have ⟨⟨KX, T⟩, hf⟩ := G
  refine wpAny_call (enterP (base := gnd fl s.heap) (binds := [(Str.ofString "one", .ref a), (Str.ofString "other", .ref b)]) (fun b o e => gnd_of e) T.nolimit (KX 70 _ rfl) rfl (codeRec_of KX (by rfl)) (by show A.depth < 1000; omega) (Nat.le_of_eq (hideAll_size _ _)) (BindsTo.of_eq rfl) (locs rfl) (fun L h₁ eL F hk => ?_) (by decide))
  have N : News (gnd fl s.heap) L h₁ [] := News.nil
  refine stopQ ?_
  k_steps
  have nL : s.heap.get? L = none := by rw [eL]; exact Heap.get?_none_of_le (Nat.le_refl _)
  have K1 : Kp fl s.heap h₁ := .of_stays hk
  have ng : ∀ (h : Heap) (c : Addr), Kp fl s.heap h → h.get? c = none → s.heap.get? c = none := fun h c k e => by
    cases q : s.heap.get? c with
    | none => rfl
    | some o => obtain ⟨sl, e'⟩ := k.any q; rw [e] at e'; cases e'
  have nb : ∀ c, s.heap.get? c = none → (gnd fl s.heap).get? c = none := fun c e => by
    cases q : (gnd fl s.heap).get? c with
    | none => rfl
    | some o => have := gnd_of q; rw [e] at this; cases this
  refine difference_spec (mg := mg) (mb := mb) (⟨KX.keeps F.keep, T.keeps F.keep⟩) (by show A.depth + 1 < 900; omega) hh (K1.isList ha) (K1.isList hb) hyb hlb fun h2 tk2 x dx it u S k2 n1 n2 n3 ff => ?_
  have F2 := F.keeps k2
  have K2 := K1.stays k2
  clear N
  have N : News (gnd fl s.heap) L h2 [] := News.nil
  dsimp only
  k_steps
  refine list_ff (mg := mg) (mb := mb) (b₀ := gnd fl s.heap) (fl := _ :: fl) ⟨KX, T⟩ F2.keep (nb _ (ng _ _ K1 n3)) (nb _ (ng _ _ K1 n1)) (nb _ (ng _ _ K1 n2)) ((hf.kp K2).push (by show ScopeKind.function ≠ ScopeKind.module; decide) rfl F2.ns) (Around.frames_deeper hA) (by show A.depth + 1 < 890; omega) hh ff (K2.isList ha) hxa hla fun h3 tk3 D1 acc1 c1 b3 nD1 hD1 hacc1 => ?_
  have F3 := frStep F2 b3 (by simpa using ng _ _ K1 n3) rfl nL
  have K3 := K2.step b3 (by simpa using ng _ _ K1 n3) rfl nL
  clear N
  have N : News (gnd fl s.heap) L h3 [] := News.nil
  k_steps
  refine difference_spec (mg := mg) (mb := mb) (⟨KX.keeps F3.keep, T.keeps F3.keep⟩) (by show A.depth + 1 < 900; omega) hh (K3.isList hb) (K3.isList ha) hxa hla fun h4 tk4 x' dx' it' u' S' k4 n1' n2' n3' ff' => ?_
  have F4 := F3.keeps k4
  have K4 := K3.stays k4
  clear N
  have N : News (gnd fl s.heap) L h4 [] := News.nil
  k_steps
  have fm4 := (hf.kp K4).push (env := envX (Str.ofString "_law_both") { kind := ScopeKind.function, names := [(Str.ofString "one", NameKind.local), (Str.ofString "other", NameKind.local), (Str.ofString "list", NameKind.globalImplicit), (Str.ofString "_difference", NameKind.globalImplicit)], isGenerator := false, isCoroutine := false } L 70 (Value.ref 69) []) (by show ScopeKind.function ≠ ScopeKind.module; decide) rfl F4.ns
  refine list_ff (mg := mg) (mb := mb) (b₀ := gnd fl s.heap) (fl := _ :: fl) ⟨KX, T⟩ F4.keep (nb _ (ng _ _ K3 n3')) (nb _ (ng _ _ K3 n1')) (nb _ (ng _ _ K3 n2')) fm4 (Around.frames_deeper hA) (by show A.depth + 1 < 890; omega) hh ff' (K4.isList hb) hyb hlb fun h5 tk5 D2 acc2 c2 b5 nD2 hD2 hacc2 => ?_
  have F5 := frStep F4 b5 (by simpa using ng _ _ K3 n3') rfl nL
  have K5 := K4.step b5 (by simpa using ng _ _ K3 n3') rfl nL
  have hD1' : h5.IsList D1 acc1 := b5.list fm4 (D := D1) ⟨_, k4 _ _ hD1, rfl, _, rfl⟩ (by
    intro q
    simp only [List.mem_cons, List.not_mem_nil, or_false] at q
    rw [q, n3'] at hD1; cases hD1)
  clear N
  have N : News (gnd fl s.heap) L h5 [] := News.nil
  k_steps
  have e1 := IntsAre.length hacc1
  have e2 := IntsAre.length hacc2
  have g1 := List.length_filter_le (fun k => !(ys.any (· == k))) xs
  have g2 := List.length_filter_le (fun k => !(xs.any (· == k))) ys
  refine add_raw (vs := acc1.toList) (ws := acc2.toList) (by rw [Array.toArray_toList]; exact hD1') (by rw [Array.toArray_toList]; exact ⟨_, hD2, rfl, _, rfl⟩) ?_ (by rw [sizeLine_eq]; omega)
  refine hQ _ _ _ _ (K5.stays fun b o e => Heap.get?_push_of_some _ e) (ng _ _ K5 (Heap.get?_none_of_le (Nat.le_refl _))) ⟨_, Heap.get?_push_size _ rfl, rfl, _, rfl⟩ ?_
  exact hacc1.append hacc2
end Mine

set_option Elab.async false
namespace Mine
def maxL (l : List Int) : Int := l.foldl max 0
def redK (leads : List Int) (M : List (List Int)) (row : List Int) : Nat → List Int
  | 0 => row
  | k + 1 => let left := redK leads M row k; if left.any (· == leads.getD k 0) then bothL left (M.getD k []) else left
def clear1 (left old : List Int) : List Int := if old.any (· == maxL left) then bothL old left else old
def stepS (p : List Int × List (List Int)) (row : List Int) : List Int × List (List Int) :=
  let left := redK p.1 p.2 row p.1.length
  if left = [] then p else (p.1 ++ [maxL left], p.2.map (clear1 left) ++ [left])
def standL (rows : List (List Int)) : List Int × List (List Int) := rows.foldl stepS ([], [])
def Good (r : List Int) : Prop := r.Nodup ∧ ∀ c ∈ r, 0 ≤ c ∧ c < 6
theorem nodup_drop : ∀ {r : List Int} (x : Int), r.Nodup → r.length ≤ (r.filter (· != x)).length + 1
  | [], _, _ => by simp
  | a :: r, x, h => by
    obtain ⟨h1, h2⟩ := List.nodup_cons.mp h
    rw [List.filter_cons]
    by_cases q : a = x
    · subst q
      have : r.filter (· != a) = r := List.filter_eq_self.mpr fun b hb => by
        simp only [bne_iff_ne, ne_eq]
        rintro rfl; exact h1 hb
      simp [this]
    · have := nodup_drop x h2
      simp [q]; omega
theorem nodup_len : ∀ (n : Nat) {r : List Int}, r.Nodup → (∀ c ∈ r, 0 ≤ c ∧ c < n) → r.length ≤ n
  | 0, r, _, h => by
    cases r with
    | nil => exact Nat.le_refl _
    | cons a r => have := h a (.head _); omega
  | n + 1, r, hn, h => by
    have h1 := nodup_drop (n : Int) hn
    have h2 := nodup_len n (r := r.filter (· != (n : Int))) (hn.filter _) fun c hc => by
      obtain ⟨hc, q⟩ := List.mem_filter.mp hc
      have := h c hc
      have q' : c ≠ (n : Int) := by simpa using q
      omega
    omega
theorem Good.len {r : List Int} (g : Good r) : r.length ≤ 6 := nodup_len 6 g.1 fun c hc => g.2 c hc
theorem any_eq {xs : List Int} {c : Int} : xs.any (· == c) = true ↔ c ∈ xs := by
  rw [List.any_eq_true]
  constructor
  · rintro ⟨x, hx, e⟩; rw [← eq_of_beq e]; exact hx
  · exact fun h => ⟨c, h, by simp⟩
theorem any_ne {xs : List Int} {c : Int} : (!(xs.any (· == c))) = true ↔ c ∉ xs := by
  rw [Bool.not_eq_true', ← Bool.not_eq_true, any_eq]
theorem mem_bothL {xs ys : List Int} {c : Int} : c ∈ bothL xs ys ↔ (c ∈ xs ∧ c ∉ ys) ∨ (c ∈ ys ∧ c ∉ xs) := by
  unfold bothL
  rw [List.mem_append, List.mem_filter, List.mem_filter, any_ne, any_ne]
theorem Good.both {xs ys : List Int} (gx : Good xs) (gy : Good ys) : Good (bothL xs ys) := by
  refine ⟨?_, fun c hc => ?_⟩
  · unfold bothL
    refine List.nodup_append.mpr ⟨gx.1.filter _, gy.1.filter _, ?_⟩
    intro a ha b hb q
    subst q
    have h1 := List.mem_filter.mp ha
    have h2 := List.mem_filter.mp hb
    exact any_ne.mp h1.2 h2.1
  · rcases mem_bothL.mp hc with h | h
    · exact gx.2 c h.1
    · exact gy.2 c h.1
theorem le_foldl_max : ∀ (l : List Int) (a : Int), a ≤ l.foldl max a
  | [], a => Int.le_refl _
  | b :: l, a => Int.le_trans (Int.le_max_left a b) (le_foldl_max l (max a b))
theorem mem_le_foldl : ∀ (l : List Int) (a : Int), ∀ c ∈ l, c ≤ l.foldl max a
  | b :: l, a, c, h => by
    rcases List.mem_cons.mp h with rfl | h
    · exact Int.le_trans (Int.le_max_right a c) (le_foldl_max l _)
    · exact mem_le_foldl l _ c h
theorem foldl_max_mem : ∀ (l : List Int) (a : Int), l.foldl max a = a ∨ l.foldl max a ∈ l
  | [], a => .inl rfl
  | b :: l, a => by
    rcases foldl_max_mem l (max a b) with h | h
    · rcases Int.le_total a b with q | q
      · right; show l.foldl max (max a b) ∈ _; rw [h, Int.max_eq_right q]; exact .head _
      · left; show l.foldl max (max a b) = a; rw [h, Int.max_eq_left q]
    · right; exact .tail _ h
theorem maxL_mem {l : List Int} (g : Good l) (n : l ≠ []) : maxL l ∈ l := by
  rcases foldl_max_mem l 0 with h | h
  · cases l with
    | nil => exact absurd rfl n
    | cons a l =>
      have h1 := mem_le_foldl (a :: l) 0 a (.head _)
      have h2 := (g.2 a (.head _)).1
      rw [h] at h1
      have : a = 0 := by omega
      unfold maxL; rw [h, this]; exact .head _
  · exact h
theorem le_maxL {l : List Int} {c : Int} (h : c ∈ l) : c ≤ maxL l := mem_le_foldl l 0 c h
theorem maxL_of {l : List Int} (g : Good l) {M : Int} (h : M ∈ l) (hm : ∀ a, a ∈ l → a ≤ M) : M = maxL l :=
  Int.le_antisymm (le_maxL h) (hm _ (maxL_mem g (by rintro rfl; cases h)))
theorem redK_good {leads : List Int} {M : List (List Int)} {row : List Int} (g : Good row) (gM : ∀ r ∈ M, Good r) : ∀ k, Good (redK leads M row k)
  | 0 => g
  | k + 1 => by
    unfold redK
    dsimp only
    split
    · refine (redK_good g gM k).both ?_
      rw [List.getD_eq_getElem?_getD]
      cases q : M[k]? with
      | none => exact ⟨List.nodup_nil, fun _ h => nomatch h⟩
      | some r => exact gM r (List.mem_of_getElem? q)
    · exact redK_good g gM k
theorem clear1_good {left old : List Int} (g : Good left) (go : Good old) : Good (clear1 left old) := by
  unfold clear1; split
  · exact go.both g
  · exact go
theorem stepS_good {p : List Int × List (List Int)} {row : List Int} (g : Good row) (gM : ∀ r ∈ p.2, Good r) : ∀ r ∈ (stepS p row).2, Good r := by
  unfold stepS
  dsimp only
  split
  · exact gM
  · intro r hr
    rcases List.mem_append.mp hr with hr | hr
    · obtain ⟨o, ho, rfl⟩ := List.mem_map.mp hr
      exact clear1_good (redK_good g gM _) (gM o ho)
    · rw [List.mem_singleton.mp hr]; exact redK_good g gM _
theorem stepS_len {p : List Int × List (List Int)} {row : List Int} (h : p.1.length = p.2.length) : (stepS p row).1.length = (stepS p row).2.length := by
  unfold stepS
  dsimp only
  split
  · exact h
  · simp [h]
theorem stepS_le {p : List Int × List (List Int)} {row : List Int} : (stepS p row).1.length ≤ p.1.length + 1 := by
  unfold stepS
  dsimp only
  split
  · omega
  · simp
theorem standL_snoc (rows : List (List Int)) (r : List Int) : standL (rows ++ [r]) = stepS (standL rows) r := by
  unfold standL; rw [List.foldl_append]; rfl
end Mine
namespace Mine
theorem standL_good : ∀ {rows : List (List Int)}, (∀ r ∈ rows, Good r) → ∀ r ∈ (standL rows).2, Good r := by
  intro rows
  suffices ∀ (rows : List (List Int)) (p : List Int × List (List Int)), (∀ r ∈ rows, Good r) → (∀ r ∈ p.2, Good r) → ∀ r ∈ (rows.foldl stepS p).2, Good r from fun h => this rows _ h (fun _ h => nomatch h)
  intro rows
  induction rows with
  | nil => exact fun p _ h => h
  | cons a rows ih => exact fun p h hp => ih _ (fun r hr => h r (.tail _ hr)) (stepS_good (h a (.head _)) hp)
theorem standL_len (rows : List (List Int)) : (standL rows).1.length = (standL rows).2.length := by
  suffices ∀ (rows : List (List Int)) (p : List Int × List (List Int)), p.1.length = p.2.length → (rows.foldl stepS p).1.length = (rows.foldl stepS p).2.length from this rows _ rfl
  intro rows
  induction rows with
  | nil => exact fun p h => h
  | cons a rows ih => exact fun p h => ih _ (stepS_len h)
theorem standL_le (rows : List (List Int)) : (standL rows).1.length ≤ rows.length := by
  suffices ∀ (rows : List (List Int)) (p : List Int × List (List Int)), (rows.foldl stepS p).1.length ≤ p.1.length + rows.length from by simpa [standL] using this rows ([], [])
  intro rows
  induction rows with
  | nil => intro p; simp
  | cons a rows ih => intro p; have := ih (stepS p a); have := stepS_le (p := p) (row := a); simp only [List.foldl_cons, List.length_cons]; omega
end Mine

open PySem PySem.W PySem.Spec PySem.Calls PyProof.Rows
set_option Elab.async false
set_option maxRecDepth 100000
set_option maxHeartbeats 8000000
namespace Mine
section
variable {prog : Program} {w : World} {A : Around} {E : Value → Shared → Prop} {fl : List Env} {env : Env}
theorem Kp.hide {ex : List Addr} {h h' : Heap} (k : Kp fl h h') : Kp fl (hideAll h ex) (hideAll h' ex) := by
  refine ⟨fun b o e n => ?_, fun b o e m => ?_⟩
  · have hb : b ∉ ex := fun q => by rw [hideAll_none _ q] at e; cases e
    exact hideAll_get _ (k.keep b o (of_hideAll _ e) n) hb
  · have hb : b ∉ ex := fun q => by rw [hideAll_none _ q] at e; cases e
    obtain ⟨sl, e'⟩ := k.up b o (of_hideAll _ e) m
    exact ⟨sl, hideAll_get _ e' hb⟩
/-- a change of hidden objects alone -/
theorem Kp.hid {ex : List Addr} {h h' : Heap} (k : ∀ b o, b ∉ ex → h.get? b = some o → h'.get? b = some o) : Kp fl (hideAll h ex) (hideAll h' ex) := by
  refine Kp.of_stays fun b o e => ?_
  have hb : b ∉ ex := fun q => by rw [hideAll_none _ q] at e; cases e
  exact hideAll_get _ (k b o hb (of_hideAll _ e)) hb
theorem Kp.unhide {ex : List Addr} {h : Heap} : Kp fl (hideAll h ex) h := .of_stays fun _ _ e => of_hideAll _ e
theorem isList_hide {ex : List Addr} {h : Heap} {a : Addr} {xs : Array Value} (l : h.IsList a xs) (n : a ∉ ex) : (hideAll h ex).IsList a xs := let ⟨o, e, r⟩ := l; ⟨o, hideAll_get _ e n, r⟩

/-- one step of a comprehension: the tests, then the element -/
def CStep (prog : Program) (w : World) (A : Around) (env : Env) (scope : Scope) (cl : List (Str × Addr)) (x : Str) (ifs : List Expr) (elt : Expr) (fl : List Env) (b₀ : Heap) (P : Nat → Value → Prop) (p : Value → Bool) (F : Heap → Value → Value → Prop) (s₂ : Shared) : Prop :=
  ∀ ex C i v h tk m E', (∀ e ∈ ex, b₀.get? e = none ∧ ∃ o, h.get? e = some o) → b₀.get? C = none → P i v → h.Ns C m → m x = some v → Kp fl b₀ h →
    wpAny (model prog w) A (forIn ifs true fun c r => if r = true then do let ok ← isTrue c (compEnvC scope cl C env) (eval c (compEnvC scope cl C env)); pure (ForInStep.yield ok) else pure (ForInStep.yield r))
      (fun ok s₄ => ok = p v ∧ ∃ h' tk', s₄ = { s₂ with heap := h', toks := tk' } ∧ Kp fl h h' ∧ (p v = true → ∀ E'', wpAny (model prog w) A (eval elt (compEnvC scope cl C env)) (fun y s₅ => ∃ h'' tk'', s₅ = { s₂ with heap := h'', toks := tk'' } ∧ Kp fl h h'' ∧ F (hideAll h'' ex) v y) E'' s₄)) E' { s₂ with heap := h, toks := tk }

theorem comp_block {elt iter : Expr} {x : Str} {px : Pos} {ifs : List Expr} {scope : Scope} {cl : List (Str × Addr)} {pos : Pos} {s₂ : Shared} {I : Addr} {fp : List Addr} {n : Nat} {P : Nat → Value → Prop}
    {St : Nat → Heap → Prop} {b₀ : Heap} {RR : Value → Addr → Result → Shared → Prop} (W : Walks prog w A I fp [I] n P St) (hsz : n ≤ sizeLine) (p : Value → Bool) (F : Heap → Value → Value → Prop)
    (hF : ∀ h h' v y, Kp fl h h' → F h v y → F h' v y)
    (hcell : ∀ y ∈ scope.names, y.2 ≠ .cell) (hkind : scope.kind = .function) (hx : scope.names.lookup x = some .local) (hst : St 0 s₂.heap) (hfp : ∀ b ∈ fp, b < s₂.heap.objs.size) (hff : ∀ b ∈ fp, b ∉ fr fl)
    (hf : Fms fl b₀) (hk₀ : b₀.StaysIn s₂.heap) (hI : b₀.get? I = none) (hIo : ∀ i h, St i h → ∃ o, h.get? I = some o)
    (hq : CStep prog w A env scope cl x ifs elt fl b₀ P p F s₂)
    (hRR : ∀ D C h' tk m' ys (vs : List Value), s₂.heap.get? D = none → s₂.heap.get? C = none → D ≠ C → h'.Ns C m' → h'.PlainList D ys → vs.length = n → (∀ j v, vs[j]? = some v → P j v) → Paired (F (hideAll h' [I, C, D])) (vs.filter p) ys.toList →
      Kp fl b₀ (hideAll h' [I, C, D]) → RR (.ref D) C (.ok .next) { s₂ with heap := h', toks := tk }) :
    wpAny (model prog w) A (newList []) (fun acc s₃ => wpAny (model prog w) A (newFunctionEnv scope env.globals cl [] env.qual none .none (some env)) (fun cenv s₄ =>
      codeAny (model prog w) A (.compStart (.ListComp elt [⟨.Name x px, iter, ifs, 0⟩] scope pos) 0 (.ref I) acc { cenv with scope := relabel scope env }) (RR acc cenv.locals) s₄) E s₃) E s₂ := by
  refine wpAny_newObj_type (wpAny_newFunctionEnv hcell (by intro y hy; simp at hy) (fun h₁ hns₁ hsb₁ => ?_) hkind)
  dsimp only at hns₁ hsb₁ ⊢
  generalize hH2 : s₂.heap.push { cls := .type "list", dict := none, data := .seq ([] : List Value).toArray } = H2 at hns₁ hsb₁ ⊢
  have hC : H2.objs.size = s₂.heap.objs.size + 1 := by rw [← hH2, Heap.size_push]
  have hDC : s₂.heap.objs.size ≠ H2.objs.size := by rw [hC]; exact Nat.ne_of_lt (Nat.lt_succ_self _)
  have below : ∀ b, b < s₂.heap.objs.size → b ≠ H2.objs.size ∧ b ≠ s₂.heap.objs.size := fun b hb => ⟨by rw [hC]; exact Nat.ne_of_lt (Nat.lt_succ_of_lt hb), Nat.ne_of_lt hb⟩
  have hDf : s₂.heap.objs.size ∉ fp := fun hm => Nat.lt_irrefl _ (hfp _ hm)
  have hCf : H2.objs.size ∉ fp := fun hm => by have := hfp _ hm; rw [hC] at this; exact Nat.lt_irrefl _ (Nat.lt_of_succ_lt this)
  have hIf : I ∈ fp := W.sub I (List.mem_singleton.mpr rfl)
  have hIlt : I < s₂.heap.objs.size := hfp I hIf
  have hCI : I ≠ H2.objs.size := (below I hIlt).1
  have hDI : I ≠ s₂.heap.objs.size := (below I hIlt).2
  have old : ∀ b o, s₂.heap.get? b = some o → h₁.get? b = some o := fun b o e => hsb₁.extBut b o (below b (Heap.lt_size e)).1 (Heap.get?_push_of_some _ (hH2 ▸ Heap.get?_push_of_some _ e))
  have hacc : h₁.PlainList s₂.heap.objs.size #[] := ⟨_, hsb₁.extBut _ _ hDC (Heap.get?_push_of_some _ (hH2 ▸ Heap.get?_push_size _ rfl))⟩
  have hst₁ : St 0 h₁ := W.frame _ _ _ hst fun b _ o e => old b o e
  have fresh : ∀ a, s₂.heap.objs.size ≤ a → s₂.heap.get? a = none := fun a ha => Heap.get?_none_of_le ha
  have fresh₀ : ∀ a, s₂.heap.objs.size ≤ a → b₀.get? a = none := fun a ha => by
    cases e : b₀.get? a with
    | none => rfl
    | some o' => have := hk₀ a o' e; rw [fresh a ha] at this; cases this
  have hD₀ : b₀.get? s₂.heap.objs.size = none := fresh₀ _ (Nat.le_refl _)
  have hC₀ : b₀.get? H2.objs.size = none := fresh₀ _ (by rw [hC]; exact Nat.le_succ _)
  have nfr : ∀ a, b₀.get? a = none → a ∉ fr fl := fun a e hm => by obtain ⟨o, _, _, ho, _⟩ := hf.mem hm; rw [e] at ho; cases ho
  generalize hexd : [I, H2.objs.size, s₂.heap.objs.size] = ex
  have hex0 : ∀ e ∈ ex, b₀.get? e = none := by
    rw [← hexd]
    intro e he
    simp only [List.mem_cons, List.not_mem_nil, or_false] at he
    rcases he with rfl | rfl | rfl <;> assumption
  have exI : I ∈ ex := by rw [← hexd]; simp
  have exC : H2.objs.size ∈ ex := by rw [← hexd]; simp
  have exD : s₂.heap.objs.size ∈ ex := by rw [← hexd]; simp
  have up0 : ∀ h, b₀.StaysIn h → Kp fl b₀ (hideAll h ex) := fun h k => .of_stays fun b o e => hideAll_get _ (k b o e) fun q => by rw [hex0 b q] at e; cases e
  have loop : ∀ s₃ : Shared, s₃ = { s₂ with heap := h₁, toks := s₂.toks + ([] : List (Str × Value)).length } →
      codeAny (model prog w) A (.compLoop (.ListComp elt [⟨.Name x px, iter, ifs, 0⟩] scope pos) 0 (.ref I) (.ref s₂.heap.objs.size) (compEnvC scope cl H2.objs.size env))
        (RR (.ref s₂.heap.objs.size) H2.objs.size) s₃ := by
    rintro s₃ rfl
    refine codeAny_compLoop_tests
      (fun k s' => ∃ h' tk m' ys, ∃ vs : List Value, s' = { s₂ with heap := h', toks := tk } ∧ St vs.length h' ∧ h'.PlainList s₂.heap.objs.size ys ∧ h'.Ns H2.objs.size m' ∧ (∃ oI, h'.get? I = some oI) ∧ (∀ j v, vs[j]? = some v → P j v) ∧
        Paired (F (hideAll h' ex)) (vs.filter p) ys.toList ∧ vs.length ≤ n ∧ k = n + 1 - vs.length ∧ Kp fl b₀ (hideAll h' ex)) ?_ (n + 1)
      ⟨h₁, _, _, #[], [], rfl, hst₁, hacc, hns₁, ?_, by simp, by simpa using Paired.nil, Nat.zero_le _, rfl, up0 _ fun b o e => old b o (hk₀ b o e)⟩
    · rintro k s' ⟨h', tk, m', ys, vs, rfl, hst', hacc', hn', ⟨oI', heI'⟩, hP, hFF, hi, rfl, hK⟩
      by_cases hlt : vs.length < n
      · refine W.item vs.length _ _ _ hlt hst' fun v h₂ tk₂ hPv hst₂ hk₂ => ?_
        refine wpAny_assign_Name (wpAny_storeName_local (lookup_relabel_local hx) (hn'.at' fun o e => hk₂ _ o (by simpa using Ne.symm hCI) e) (fun h₃ hn₃ hs₃ => ?_) (by simp [compEnvC, relabel, hkind]))
        have hst₃ : St (vs.length + 1) h₃ := W.frame _ _ _ hst₂ fun b hb o e => hs₃.extBut b o (fun q => hCf (by have q' : b = H2.objs.size := q; rw [← q']; exact hb)) e
        have hIa : ∃ oI, h₃.get? I = some oI := hIo _ _ hst₃
        have hK₃ : Kp fl (hideAll h' ex) (hideAll h₃ ex) := .hid fun b o nb e => hs₃.extBut b o (fun q => nb (by have q' : b = H2.objs.size := q; rw [q']; exact exC)) (hk₂ b o (fun q => nb (by rw [List.mem_singleton.mp q]; exact exI)) e)
        have hacc₃ : h₃.PlainList s₂.heap.objs.size ys := (hacc'.at fun o e => hk₂ _ o (by simpa using Ne.symm hDI) e).at fun o e => hs₃.extBut _ o (by exact hDC) e
        have kp₃ : Kp fl b₀ h₃ := (hK.trans hK₃).trans Kp.unhide
        have alive : ∀ e ∈ ex, b₀.get? e = none ∧ ∃ o, h₃.get? e = some o := by
          intro e he
          refine ⟨hex0 e he, ?_⟩
          rw [← hexd] at he
          simp only [List.mem_cons, List.not_mem_nil, or_false] at he
          rcases he with rfl | rfl | rfl
          · exact hIa
          · obtain ⟨o, _, _, e, _⟩ := hn₃; exact ⟨o, e⟩
          · obtain ⟨n, e⟩ := hacc₃; exact ⟨_, e⟩
        have hP' : ∀ j u, (vs ++ [v])[j]? = some u → P j u := fun j u hj => by
          rcases Nat.lt_trichotomy j vs.length with h | h | h
          · exact hP j u (by rwa [List.getElem?_append_left h] at hj)
          · subst h; simp at hj; subst hj; exact hPv
          · have hnone : (vs ++ [v])[j]? = none := List.getElem?_eq_none (by rw [List.length_append, List.length_singleton]; omega)
            rw [hnone] at hj; cases hj
        refine wpAny_mono (hq ex _ _ v h₃ _ _ _ alive hC₀ hPv hn₃ (by simp) kp₃) (fun ok s₄ h₄ => ?_) fun _ _ e => e
        obtain ⟨rfl, h₄, tk₄, rfl, kp₄, helt⟩ := h₄
        have stK : ∀ h'' : Heap, Kp fl h₃ h'' → St (vs.length + 1) h'' ∧ h''.PlainList s₂.heap.objs.size ys ∧ h''.Ns H2.objs.size (fun z => if z = x then some v else m' z) ∧ (∃ oI, h''.get? I = some oI) := fun h'' k =>
          ⟨W.frame _ _ _ hst₃ fun b hb o e => k.keep b o e (hff b hb), hacc₃.at fun o e => k.keep _ o e (nfr _ hD₀), hn₃.at' fun o e => k.keep _ o e (nfr _ hC₀), let ⟨oI, e⟩ := hIa; ⟨oI, k.keep _ _ e (nfr _ hI)⟩⟩
        cases hpv : p v with
        | false =>
          simp only [Bool.false_eq_true, if_false]
          obtain ⟨z1, z2, z3, z4⟩ := stK h₄ kp₄
          refine ⟨n + 1 - (vs.length + 1), by omega, h₄, tk₄, _, ys, vs ++ [v], rfl, by simpa using z1, z2, z3, z4, hP', ?_, (by rw [List.length_append, List.length_singleton]; exact hlt), (by rw [List.length_append, List.length_singleton]), (hK.trans hK₃).trans kp₄.hide⟩
          rw [List.filter_append]
          have : [v].filter p = [] := by simp [hpv]
          rw [this, List.append_nil]
          exact hFF.mono fun a b => hF _ _ a b (hK₃.trans kp₄.hide)
        | true =>
          simp only [if_true]
          refine wpAny_mono (helt hpv _) (fun y s₅ h₅ => ?_) fun _ _ e => e
          obtain ⟨h₅, tk₅, rfl, kp₅, hFy⟩ := h₅
          obtain ⟨z1, z2, z3, z4⟩ := stK h₅ kp₅
          have hys : ys.size ≤ sizeLine := by
            have e1 := hFF.length
            have e2 : (vs.filter p).length ≤ vs.length := List.length_filter_le _ _
            have e4 : ys.toList.length = ys.size := by simp
            omega
          refine wpAny_list_append_plain (hsz := hys) z2 fun h₆ hl₆ hs₆ => ?_
          have k6 : Kp fl (hideAll h₅ ex) (hideAll h₆ ex) := .hid fun b o nb e => hs₆.extBut b o (fun q => nb (by have q' : b = s₂.heap.objs.size := q; rw [q']; exact exD)) e
          refine ⟨n + 1 - (vs.length + 1), by omega, h₆, tk₅, _, ys.push y, vs ++ [v], rfl, ?_, hl₆, z3.sameBut hs₆ (Ne.symm hDC), (let ⟨oI, e⟩ := z4; ⟨oI, hs₆.extBut _ _ hDI e⟩), hP', ?_, (by rw [List.length_append, List.length_singleton]; exact hlt), (by rw [List.length_append, List.length_singleton]), ((hK.trans hK₃).trans kp₅.hide).trans k6⟩
          · have := W.frame _ _ h₆ z1 fun b hb o e => hs₆.extBut b o (fun h => hDf (h ▸ hb)) e
            simpa using this
          · rw [List.filter_append, Array.toList_push]
            have : [v].filter p = [v] := by simp [hpv]
            rw [this]
            exact Paired.snoc (hFF.mono fun a b => hF _ _ a b ((hK₃.trans kp₅.hide).trans k6)) (hF _ _ _ _ k6 hFy)
      · have hin : vs.length = n := by omega
        refine W.done _ _ _ (hin ▸ hst') fun h₂ tk₂ hk₂ => ?_
        have k2 : Kp fl (hideAll h' ex) (hideAll h₂ ex) := .hid fun b o nb e => hk₂ b o (fun q => nb (by rw [List.mem_singleton.mp q]; exact exI)) e
        refine hRR _ _ h₂ tk₂ m' ys vs (fresh _ (Nat.le_refl _)) (fresh _ (by rw [hC]; exact Nat.le_succ _)) hDC (hn'.at' fun o e => hk₂ _ o (by simpa using Ne.symm hCI) e) (hacc'.at fun o e => hk₂ _ o (by simpa using Ne.symm hDI) e) hin hP ?_ ?_
        · rw [hexd]; exact hFF.mono fun a b => hF _ _ a b k2
        · rw [hexd]; exact hK.trans k2
    · exact hIo _ _ hst₁
  exact codeAny_compStart_list (loop _ rfl) (W.self 0 _ _ _ hst₁ (loop _ rfl))

/-- what a comprehension draws from -/
inductive Src (h : Heap) : Value → Nat → (Nat → Value → Prop) → Prop
  | list {ax : Addr} {its : List Value} (l : h.IsList ax its.toArray) (hsz : its.length ≤ 1000) : Src h (.ref ax) its.length (fun i v => its[i]? = some v)
  | range {r : Addr} {n : Nat} {t u v : Tok} (l : IsRange h r 0 n 1 t u v) (hsz : n ≤ 1000) : Src h (.ref r) n (fun i v => i < n ∧ ∃ t, v = .int (i : Int) t)
theorem range_size (n : Nat) : Builtin.Range.rangeSize 0 n 1 = n := by
  unfold Builtin.Range.rangeSize
  split <;> first | omega | (split <;> omega) | skip
  all_goals (simp; omega)
theorem range_small (n : Nat) (h : n ≤ 1000) : Builtin.Range.small 0 n 1 = true := small_one (by decide) (by decide) (by omega) (by omega)

theorem comp_src {elt iter : Expr} {x : Str} {px : Pos} {ifs : List Expr} {scope : Scope} {cl : List (Str × Addr)} {pos : Pos} {s₁ : Shared} {xv : Value} {n : Nat} {P : Nat → Value → Prop}
    {RR : Value → Addr → Result → Shared → Prop} (S : Src s₁.heap xv n P) (p : Value → Bool) (F : Heap → Value → Value → Prop)
    (hF : ∀ h h' v y, Kp fl h h' → F h v y → F h' v y) (hh : A.handled = none)
    (hcell : ∀ y ∈ scope.names, y.2 ≠ .cell) (hkind : scope.kind = .function) (hx : scope.names.lookup x = some .local)
    (hf : Fms fl s₁.heap)
    (hq : CStep prog w A env scope cl x ifs elt fl s₁.heap P p F s₁)
    (hRR : ∀ I D C h' tk m' ys (vs : List Value), s₁.heap.get? I = none → s₁.heap.get? D = none → s₁.heap.get? C = none → D ≠ C → h'.Ns C m' → h'.PlainList D ys → vs.length = n → (∀ j v, vs[j]? = some v → P j v) → Paired (F (hideAll h' [I, C, D])) (vs.filter p) ys.toList →
      Kp fl s₁.heap (hideAll h' [I, C, D]) → RR (.ref D) C (.ok .next) { s₁ with heap := h', toks := tk }) :
    wpAny (model prog w) A (pyIter xv) (fun it s₂ => wpAny (model prog w) A (newList []) (fun acc s₃ => wpAny (model prog w) A (newFunctionEnv scope env.globals cl [] env.qual none .none (some env)) (fun cenv s₄ =>
      codeAny (model prog w) A (.compStart (.ListComp elt [⟨.Name x px, iter, ifs, 0⟩] scope pos) 0 it acc { cenv with scope := relabel scope env }) (RR acc cenv.locals) s₄) E s₃) E s₂) E s₁ := by
  have back : ∀ (h : Heap) (c : Addr), s₁.heap.StaysIn h → h.get? c = none → s₁.heap.get? c = none := fun h c k e => by
    cases q : s₁.heap.get? c with
    | none => rfl
    | some o => have := k _ _ q; rw [e] at this; cases this
  have new : s₁.heap.get? s₁.heap.objs.size = none := Heap.get?_none_of_le (Nat.le_refl _)
  have nfr : s₁.heap.objs.size ∉ fr fl := fun hm => by obtain ⟨o, _, _, ho, _⟩ := hf.mem hm; rw [new] at ho; cases ho
  cases S with
  | @list ax its l hsz =>
    have hlt : ax < s₁.heap.objs.size := by obtain ⟨_, e, _⟩ := l; exact Heap.lt_size e
    have nax : ax ∉ fr fl := by obtain ⟨o, e, _, n, hd⟩ := l; exact hf.not_mem e fun _ _ q => by rw [hd] at q; cases q
    refine wpAny_pyIter_list l ?_
    have up : s₁.heap.StaysIn (s₁.heap.push { cls := .type "list_iterator", data := .fields #[.ref ax, .int 0 0] }) := fun b o e => Heap.get?_push_of_some _ e
    have W := Walks.list (prog := prog) (w := w) hh s₁.heap.objs.size ax (Nat.ne_of_lt hlt) its.toArray
    rw [List.size_toArray] at W
    refine comp_block (b₀ := s₁.heap) (fl := fl) W (by rw [sizeLine_eq, List.size_toArray]; omega) p F hF hcell hkind hx ⟨⟨_, Heap.get?_push_size _ rfl, rfl, rfl⟩, l.push _⟩ (fun b hb => ?_) (fun b hb => ?_) hf up new (fun i h st => by obtain ⟨o, e, _⟩ := st.1; exact ⟨o, e⟩) ?_ ?_
    · show b < (s₁.heap.push _).objs.size
      rw [Heap.size_push]
      rcases List.mem_cons.mp hb with rfl | hb
      · exact Nat.lt_succ_self _
      · rw [List.mem_singleton.mp hb]; exact Nat.lt_succ_of_lt hlt
    · rcases List.mem_cons.mp hb with rfl | hb
      · exact nfr
      · rw [List.mem_singleton.mp hb]; exact nax
    · intro ex C i v h tk m E' h1 h2 h3 h4 h5 h6
      exact hq ex C i v h tk m E' h1 h2 (by simpa using h3) h4 h5 h6
    · intro D C h' tk m' ys vs h1 h2 h3 h4 h5 h6 h7 h8 h9
      exact hRR _ D C h' tk m' ys vs new (back _ _ up h1) (back _ _ up h2) h3 h4 h5 h6 (fun j v e => by simpa using h7 j v e) h8 h9
  | @range r n t u v l hsz =>
    refine wpAny_pyIter_range l (range_small n hsz) ?_
    have up : ∀ o, s₁.heap.StaysIn (s₁.heap.push o) := fun o b o e => Heap.get?_push_of_some _ e
    refine comp_block (b₀ := s₁.heap) (fl := fl) (LCg.range_walks hh 0 n).bound (by rw [sizeLine_eq]; omega) p F hF hcell hkind hx (by show IsRangeIter _ _ _ _ _; rw [range_size]; simpa using Heap.get?_push_size _ rfl) (fun b hb => ?_) (fun b hb => ?_) hf (up _) new (fun i h st => ⟨_, st⟩) ?_ ?_
    · rw [List.mem_singleton.mp hb]
      show s₁.heap.objs.size < (s₁.heap.push _).objs.size
      rw [Heap.size_push]; exact Nat.lt_succ_self _
    · rw [List.mem_singleton.mp hb]; exact nfr
    · intro ex C i v h tk m E' h1 h2 h3 h4 h5 h6
      exact hq ex C i v h tk m E' h1 h2 (by simpa using h3) h4 h5 h6
    · intro D C h' tk m' ys vs h1 h2 h3 h4 h5 h6 h7 h8 h9
      exact hRR _ D C h' tk m' ys vs new (back _ _ (up _) h1) (back _ _ (up _) h2) h3 h4 h5 h6 (fun j v e => by simpa using h7 j v e) h8 h9

theorem comp_ev {s : Shared} {elt iter : Expr} {x : Str} {px : Pos} {ifs : List Expr} {scope : Scope} {cl : List (Str × Addr)} {pos : Pos} {Q : Value → Shared → Prop} (p : Value → Bool) (F : Heap → Value → Value → Prop)
    (hF : ∀ h h' v y, Kp fl h h' → F h v y → F h' v y) (hh : A.handled = none)
    (hclos : closureFor scope env = pure cl) (hcell : ∀ y ∈ scope.names, y.2 ≠ .cell) (hkind : scope.kind = .function)
    (hnames : ∀ y ∈ scope.names, y.2 = .local → scope.names.lookup y.1 = some .local) (hx : scope.names.lookup x = some .local)
    (h : wpAny (model prog w) A (eval iter env) (fun xv s₁ => ∃ n P, Src s₁.heap xv n P ∧ Fms fl s₁.heap ∧ CStep prog w A env scope cl x ifs elt fl s₁.heap P p F s₁ ∧
      (∀ D h' tk ys (vs : List Value), s₁.heap.get? D = none → h'.PlainList D ys → vs.length = n → (∀ j v, vs[j]? = some v → P j v) → Paired (F (hideAll h' [D])) (vs.filter p) ys.toList → Kp fl s₁.heap h' → Q (.ref D) { s₁ with heap := h', toks := tk })) E s)
    (hs : ∀ x, foldedSetIterable iter env x = pure x := by intro _; rfl) :
    wpAny (model prog w) A (eval (.ListComp elt [⟨.Name x px, iter, ifs, 0⟩] scope pos) env) Q E s := by
  rw [eval_ListComp]
  refine wpAny_comprehension_free (use := none) rfl hs hclos hkind hnames (wpAny_mono h (fun xv s₁ h₁ => ?_) fun _ _ e => e)
  obtain ⟨n, P, S, hf, hq, hQ⟩ := h₁
  refine comp_src (RR := fun acc C => compPost (model prog w) A E none Q acc C) S p F hF hh hcell hkind hx hf hq ?_
  intro I D C h' tk m' ys vs hI hD hC hDC hn hl hlen hP hFF hk
  refine ⟨m', hn, fun h'' hs'' => ?_⟩
  have k : Kp fl (hideAll h' [I, C, D]) (hideAll h'' [I, C, D]) := .hid fun b o nb e => hs''.extBut b o (fun q => nb (by simp [q])) e
  have k1 : Kp fl (hideAll h'' [I, C, D]) (hideAll h'' [D]) := .of_stays fun b o e => hideAll_get _ (of_hideAll _ e) fun q => by
    rw [hideAll_none _ (by rw [List.mem_singleton.mp q]; simp)] at e; cases e
  exact hQ D h'' tk ys vs hD (hl.extBut hs''.extBut hDC) hlen hP (hFF.mono fun a b => hF _ _ a b (k.trans k1)) (hk.trans (k.trans Kp.unhide))

theorem comp_as {s : Shared} {elt iter : Expr} {x y : Str} {px py : Pos} {ifs : List Expr} {scope : Scope} {cl : List (Str × Addr)} {pos spos : Pos} {Q : Flow → Shared → Prop} (p : Value → Bool) (F : Heap → Value → Value → Prop)
    (hF : ∀ h h' v y, Kp fl h h' → F h v y → F h' v y) (hh : A.handled = none)
    (hsw : swapsWith (.ListComp elt [⟨.Name x px, iter, ifs, 0⟩] scope pos) (some (.Name y py)) spos.line env = pure true)
    (hclos : closureFor scope env = pure cl) (hcell : ∀ z ∈ scope.names, z.2 ≠ .cell) (hkind : scope.kind = .function)
    (hnames : ∀ z ∈ scope.names, z.2 = .local → scope.names.lookup z.1 = some .local) (hx : scope.names.lookup x = some .local)
    (hy : env.kindOf y = some .local) (hp : (env.scope.kind == .class || (env.scope.kind == .module && env.locals != env.globals)) = false)
    (h : wpAny (model prog w) A (eval iter env) (fun xv s₁ => ∃ n P m, Src s₁.heap xv n P ∧ Fms fl s₁.heap ∧ s₁.heap.Ns env.locals m ∧ CStep prog w A env scope cl x ifs elt fl s₁.heap P p F s₁ ∧
      (∀ D hm h' tk ys (vs : List Value), s₁.heap.get? D = none → hm.PlainList D ys → vs.length = n → (∀ j v, vs[j]? = some v → P j v) → Paired (F hm) (vs.filter p) ys.toList → Kp fl s₁.heap hm →
        (∀ b o, b ≠ env.locals → hm.get? b = some o → h'.get? b = some o) → h'.Ns env.locals (fun z => if z = y then some (.ref D) else m z) → Q .next { s₁ with heap := h', toks := tk })) E s)
    (hs : ∀ x, foldedSetIterable iter env x = pure x := by intro _; rfl) :
    wpAny (model prog w) A (exec (.Assign [.Name y py] (.ListComp elt [⟨.Name x px, iter, ifs, 0⟩] scope pos) spos) env) Q E s := by
  rw [exec_Assign_Name_used _ _ _ _ hsw]
  refine wpAny_bind (wpAny_standAt (wpAny_bind ?_))
  show wpAny _ A (do let _ ← comprehension (.ListComp elt [⟨.Name x px, iter, ifs, 0⟩] scope pos) scope env _ (newList []) false (eval iter env) (some (assign (.Name y py) env))) _ _ s
  refine wpAny_bind (wpAny_mono (wpAny_comprehension_free (use := some (assign (.Name y py) env)) (Q := fun _ s' => Q .next s') rfl hs hclos hkind hnames
    (wpAny_mono h (fun xv s₁ h₁ => ?_) fun _ _ e => e)) (fun _ s' hq => wpAny_pure (wpAny_pure hq)) fun _ _ e => e)
  obtain ⟨n, P, m, S, hf, hnL, hq, hQ⟩ := h₁
  refine comp_src (RR := fun acc C => compPost (model prog w) A E (some (assign (.Name y py) env)) (fun _ s' => Q .next s') acc C) S p F hF hh hcell hkind hx hf hq ?_
  intro I D C h' tk m' ys vs hI hD hC hDC hnC hl hlen hP hFF hk
  have hk' : Kp fl s₁.heap h' := hk.trans Kp.unhide
  have hLD : env.locals ≠ D := by rintro rfl; obtain ⟨o, _, _, ho, _⟩ := hnL; rw [hD] at ho; cases ho
  have hLC : env.locals ≠ C := by rintro rfl; obtain ⟨o, _, _, ho, _⟩ := hnL; rw [hC] at ho; cases ho
  have hnL' : h'.Ns env.locals m := by
    obtain ⟨o, es, ep, ho, hd, r⟩ := hnL
    obtain ⟨sl, e⟩ := hk'.any ho
    exact ⟨_, es, ep, e, hd, r⟩
  show wpAny _ A (assign (.Name y py) env (.ref D)) _ _ _
  refine wpAny_assign_Name (wpAny_storeName_local hy hnL' (fun h₂ hn₂ hs₂ => ?_) hp)
  refine ⟨m', hnC.sameBut hs₂ (Ne.symm hLC), fun h₃ hs₃ => ?_⟩
  have k0 : Kp fl (hideAll h' [I, C, D]) (hideAll h' [C]) := .of_stays fun b o e => hideAll_get _ (of_hideAll _ e) fun q => by
    rw [hideAll_none _ (by rw [List.mem_singleton.mp q]; simp)] at e; cases e
  refine hQ D (hideAll h' [C]) h₃ _ ys vs hD ?_ hlen hP (hFF.mono fun a b => hF _ _ a b k0) (hk.trans k0) (fun b o nb e => ?_) (hn₂.sameBut hs₃ hLC)
  · obtain ⟨n, e⟩ := hl
    exact ⟨n, hideAll_get _ e (by simpa using hDC)⟩
  · have nC : b ≠ C := fun q => by rw [hideAll_none _ (by rw [q]; simp)] at e; cases e
    exact hs₃.extBut b o nC (hs₂.extBut b o nb (of_hideAll _ e))
end
end Mine

open PySem PySem.W PySem.Spec PySem.Calls PyProof.Rows
set_option Elab.async false
set_option maxRecDepth 100000
set_option maxHeartbeats 8000000
namespace Mine
example : PySem.Challenge.rw_in0205_01 = PySem.Challenge.rw_in0205_01 ∧ hd.heap_39 = hd.heap_39 := by k_fill; exact ⟨rfl, rfl⟩

theorem enterC {prog : Program} {w : World} {A : Around} {s : Shared} {base : Heap}
  {R : Result → Shared → Prop} {name qual : Str} {params : Arguments} {body : List Stmt} {scope : Scope} {dV kV doc pm cdv ct : Value} {an : Option Addr} {fo : Obj} {f : Addr} {args : Args} {binds : List (Str × Value)}
    (st : base.StaysIn s.heap) (hlim : base.NoLimit)
    (ho : base.get? f = some fo) (hd : fo.data = .func (fnX name qual params body scope [] dV kV doc pm an cdv ct)) (hcd : base.CodeRec cdv qual) (hroom : A.depth < recursionLimit)
    (hsz : base.objs.size ≤ s.heap.objs.size)
    (hbind : BindsTo s (fnX name qual params body scope [] dV kV doc pm an cdv ct) args binds)
    (hkind : ∀ n, ∀ x ∈ binds, scope.names.lookup x.1 = some .local ∨ (scope.names.lookup x.1 = some .cell ∧ ((cellsFrom n scope.names []).lookup x.1).isSome = true))
    (hnd : ((cellsFrom 0 scope.names []).map (·.1)).Nodup)
    (h : ∀ L' h₁ tk cells, L' = s.heap.objs.size → Fr base L' h₁ (bindL (envOfC qual scope L' f cdv).kindOf binds fun _ => none) → News base L' h₁ cells →
      CellsAre (bindC (envOfC qual scope L' f cdv).kindOf binds fun _ => none) (cellsFrom (L' + 1) scope.names []) cells → (∀ p ∈ cells, s.heap.get? p.1 = none) → (∀ b o, s.heap.get? b = some o → h₁.get? b = some o) →
      wpAny (model prog w) (A.deeper (envOfC qual scope L' f cdv)) (execs body (envOfC qual scope L' f cdv))
        (fun fl s' => R (.ok (.ret (match fl with | .ret v => v | _ => .none))) s')
        (fun e s' => wpAny (model prog w) (A.deeper (envOfC qual scope L' f cdv)) (leaving (envOfC qual scope L' f cdv) e) (fun _ s'' => R (.error e) s'') (fun e' s'' => R (.error e') s'') s')
        { s with heap := h₁, toks := tk })
    (hco : scope.isCoroutine = false := by rfl) (hgen : scope.isGenerator = false := by rfl) (hk : scope.kind = .function := by rfl) : codeAny (model prog w) A (.call (.ref f) args) R s := by
  refine codeAny_call_function hroom (st _ _ ho) hd hco hgen rfl (hcd.keeps st) (hbind _ _ _ _ ?_)
  refine wpAny_newFunctionEnv_cells hk (hkind _) fun env' he s' x => ?_
  subst he
  refine ⟨(hlim.keeps st).keeps x.toInCall.keep, codeAny_func ?_⟩
  obtain ⟨h₁, tk, rfl, _⟩ := x.done
  have hk₁ := x.toInCall.keep
  obtain ⟨cells, NC, Y⟩ := Cl.news (h₀ := s.heap) (Nat.le_refl _) fun n c hm => ⟨x.cell n c (lookup_of_mem_nodup (cellsFrom_names scope.names 0 (s.heap.objs.size + 1) [] [] rfl ▸ hnd) hm), x.above n c hm⟩
  refine h s.heap.objs.size h₁ tk cells rfl ⟨x.toInCall.ns, fun b o e => hk₁ b o (st b o e), hsz⟩ (fun p hp => ⟨(NC p hp).1, (NC p hp).2.1, ?_⟩) Y (fun p hp => (NC p hp).2.2) hk₁
  cases q : base.get? p.1 with
  | none => rfl
  | some o => have := st _ _ q; rw [(NC p hp).2.2] at this; cases this

local macro_rules | `(tactic| walk_at "exec Assign cons ListComp") => `(tactic| refine Stop.go ?_)
local macro_rules | `(tactic| walk_at "eval ListComp") => `(tactic| refine Stop.go ?_)

def isInt (v : Value) (n : Int) : Prop := ∃ t, v = .int n t

theorem cstepN {base h₂ h : Heap} {L C : Addr} {oC : Obj} {news : List (Addr × Obj)} {m : Str → Option Value} (F : Fr base L h₂ m) (N : News base L h₂ news) (k : h₂.StaysIn h) (hC : h₂.get? C = none) (eC : h.get? C = some oC) : Fr base L h m ∧ News base L h ((C, oC) :: news) := by
  refine ⟨F.keeps k, fun p hp => ?_⟩
  rcases List.mem_cons.mp hp with rfl | hp
  · refine ⟨eC, fun q => ?_, ?_⟩
    · obtain ⟨o, _, _, e, _⟩ := F.ns; have q' : C = L := q; rw [← q', hC] at e; cases e
    · show base.get? C = none
      cases q : base.get? C with
      | none => rfl
      | some o => have := F.keep _ _ q; rw [hC] at this; cases this
  · exact ⟨k _ _ (N p hp).1, (N p hp).2⟩
theorem asgF {base h₂ hm h' : Heap} {L : Addr} {news : List (Addr × Obj)} {m m' : Str → Option Value} (F : Fr base L h₂ m) (N : News base L h₂ news) (k : h₂.StaysIn hm) (k' : ∀ b o, b ≠ L → hm.get? b = some o → h'.get? b = some o) (n : h'.Ns L m') : Fr base L h' m' ∧ News base L h' news :=
  ⟨⟨n, fun b o e => k' b o (fun q => by rw [q, Heap.get?_none_of_le F.above] at e; cases e) (k b o (F.keep b o e)), F.above⟩, fun p hp => ⟨k' _ _ (N p hp).2.1 (k _ _ (N p hp).1), (N p hp).2⟩⟩
theorem srcVals {its vs : List Value} (h : vs.length = its.length) (e : ∀ (j : Nat) (v : Value), vs[j]? = some v → its[j]? = some v) : vs = its := by
  apply List.ext_getElem? 
  intro j
  cases q : vs[j]? with
  | some v => exact (e j v q).symm
  | none =>
    have : its.length ≤ j := by rw [← h]; exact List.getElem?_eq_none_iff.mp q
    exact (List.getElem?_eq_none this).symm
theorem rangeVals {vs : List Value} : ∀ {n : Nat}, vs.length = n → (∀ (j : Nat) (v : Value), vs[j]? = some v → ∃ t, v = .int (j : Int) t) → IntsAre vs ((List.range n).map fun n : Nat => (n : Int)) := by
  intro n
  induction n generalizing vs with
  | zero => intro h _; rw [List.length_eq_zero_iff.mp h]; exact .nil
  | succ n ih =>
    intro h e
    have hl : (vs.take n).length = n := by rw [List.length_take]; omega
    have hg : vs[n]? = some vs[n] := List.getElem?_eq_getElem (by omega)
    have hs : vs = vs.take n ++ [vs[n]] := by
      rw [← List.take_succ_eq_append_getElem (by omega), List.take_of_length_le (by omega)]
    rw [hs, List.range_succ, List.map_append]
    refine IntsAre.append (ih hl fun j v q => e j v ?_) ?_
    · have hj : j < n := by
        have := (List.getElem?_eq_some_iff.mp q).1; omega
      rw [List.getElem?_take] at q
      simpa [hj] using q
    · obtain ⟨t, q⟩ := e n _ hg
      rw [q]
      exact .cons _ _ .nil
/-- ints drawn, tested and mapped -/
theorem intsAre_mem : ∀ {vs : List Value} {ns : List Int} {v : Value}, IntsAre vs ns → v ∈ vs → ∃ n t, v = .int n t ∧ n ∈ ns
  | _, _, _, .nil, h => nomatch h
  | _, _, _, .cons n t r, h => by
    rcases List.mem_cons.mp h with rfl | h
    · exact ⟨n, t, rfl, .head _⟩
    · obtain ⟨n', t', e, h'⟩ := intsAre_mem r h
      exact ⟨n', t', e, .tail _ h'⟩
theorem compInts {p : Value → Bool} {pz : Int → Bool} {f : Int → Int} {G : Value → Value → Prop} (hp : ∀ n t, p (.int n t) = pz n) (hG : ∀ n t y, pz n = true → G (.int n t) y → ∃ t', y = .int (f n) t') : ∀ {vs : List Value} {ns : List Int} {ys : List Value}, IntsAre vs ns → Paired G (vs.filter p) ys → IntsAre ys ((ns.filter pz).map f)
  | _, _, ys, .nil, h => by cases h; exact .nil
  | _, _, ys, .cons n t r, h => by
    rw [List.filter_cons, hp] at h
    rw [List.filter_cons]
    cases q : pz n with
    | false => rw [q] at h; exact compInts hp hG r (by simpa using h)
    | true =>
      rw [q] at h
      simp only [if_true] at h ⊢
      cases h with
      | cons a b =>
        obtain ⟨t', rfl⟩ := hG _ _ _ q a
        exact .cons _ _ (compInts hp hG r b)
theorem fms_nil {h : Heap} : Fms [] h := fun _ h => nomatch h
theorem Kp.nil {h h' : Heap} (k : Kp [] h h') : h.StaysIn h' := fun b o e => k.keep b o e (by intro q; cases q)

def rowL (x : Int) : List Int := (((List.range 6).map fun n : Nat => (x.fdiv 64 + (n : Int)).fmod 6)).filter fun c => (x.fdiv (2 ^ c.toNat)).fmod 2 == 1

theorem row_spec {w : World} {mg mb : Str → Option Value} {A : Around} {s : Shared} {Q E : Value → Shared → Prop} {x : Int} {t : Tok}
   (G : Gd w mg mb s.heap) (hroom : A.depth < 880) (hh : A.handled = none)
   (hQ : ∀ h' tk D zs, s.heap.StaysIn h' → s.heap.get? D = none → h'.IsList D zs.toArray → IntsAre zs (rowL x) → Q (.ref D) { s with heap := h', toks := tk }) :
   wpAny (model P0 w) A (call (.ref 63) [.int x t]) Q E s := by
  have ⟨KX, T⟩ := G
  refine wpAny_call (enterC (base := s.heap) (binds := [(Str.ofString "x", .int x t)]) (fun b o e => e) T.nolimit (KX 63 _ rfl) rfl (codeRec_of KX (by rfl)) (by show A.depth < 1000; omega) (Nat.le_refl _) (BindsTo.of_eq rfl) (kindsX rfl) (by decide) (fun L h₁ tk cells eL F N Y hfr hk => ?_))
  k_cells Y
  refine stopQ ?_
  k_steps
  refine Stop.mk ?_
  refine comp_as (fl := []) (fun _ => true) (fun _ v y => ∀ n t, v = .int n t → ∃ t', y = .int ((x.fdiv 64 + n).fmod 6) t') (fun _ _ _ _ _ h => h) hh rfl rfl (by decide) rfl (by decide) rfl rfl rfl (stopQ ?_)
  k_steps
  rename IsRange _ _ _ _ _ _ _ _ => rg
  rename Fr _ _ _ _ => F2
  rename News _ _ _ _ => N2
  refine Stop.mk ?_
  dsimp only
  refine ⟨6, fun i v => i < 6 ∧ ∃ t, v = .int (i : Int) t, _, Src.range (n := 6) rg (by decide), fms_nil, F2.ns, ?_, ?_⟩
  · intro ex C i v h tk m E' hex hC0 hP hn hm kp
    obtain ⟨oC, eC, hoC⟩ := LCg.ns_obj hn
    obtain ⟨F3, N3⟩ := cstepN F2 N2 kp.nil hC0 eC
    obtain ⟨_, ti, rfl⟩ := hP
    clear F2 N2
    refine wpAny_tests_nil ⟨rfl, h, _, rfl, .refl, fun _ E'' => stopQ ?_⟩
    k_steps
    exact Stop.mk ⟨h, _, rfl, .refl, fun n t e => by cases e; exact ⟨_, rfl⟩⟩
  · intro D hm h' tk ys vs hD hpl hlen hP hpa kp hkL hnL
    obtain ⟨F3, N3⟩ := asgF F2 N2 kp.nil hkL hnL
    have hys := compInts (pz := fun _ => true) (f := fun n => (x.fdiv 64 + n).fmod 6) (fun _ _ => rfl) (fun n t y _ h => h n t rfl) (rangeVals hlen fun j v e => (hP j v e).2) hpa
    have hpl' : h'.IsList D ys := by
      obtain ⟨nn, e⟩ := hpl
      refine ⟨_, hkL _ _ (fun q => ?_) e, rfl, nn, rfl⟩
      obtain ⟨_, _, _, e2, _⟩ := F2.ns
      have q' : D = L := q
      rw [← q', hD] at e2; cases e2
    clear F2 N2
    have hcol : ∀ (i : Nat) (v : Value), ys.toList[i]? = some v → ∃ n t, v = .int n t ∧ 0 ≤ n ∧ n < 6 := fun i v e => by
      obtain ⟨n, t, rfl, hn⟩ := intsAre_mem hys (List.mem_of_getElem? e)
      refine ⟨n, t, rfl, ?_⟩
      simp only [List.mem_map, List.mem_filter] at hn
      obtain ⟨a, _, rfl⟩ := hn
      exact ⟨Int.fmod_nonneg_of_pos _ (by decide), Int.fmod_lt_of_pos _ (by decide)⟩
    k_steps
    refine Stop.mk ?_
    refine comp_ev (fl := []) (fun v => match v with | .int n _ => (x.fdiv (2 ^ n.toNat)).fmod 2 == 1 | _ => false) (fun _ v y => y = v) (fun _ _ _ _ _ h => h) hh rfl (by decide) rfl (by decide) rfl (stopQ ?_)
    k_steps
    refine Stop.mk ?_
    dsimp only
    refine ⟨_, _, Src.list (its := ys.toList) (by rw [Array.toArray_toList]; exact hpl') (by rw [IntsAre.length hys]; simp only [List.length_map, List.length_filter_eq_length_iff.mpr (fun _ _ => rfl), List.length_range]; decide), fms_nil, ?_, ?_⟩
    · intro ex C i v h tk m E' hex hC0 hP hn hm kp
      obtain ⟨oC, eC, hoC⟩ := LCg.ns_obj hn
      obtain ⟨F4, N4⟩ := cstepN F3 N3 kp.nil hC0 eC
      obtain ⟨n, ti, rfl, hn0, hn6⟩ := hcol _ _ hP
      clear F3 N3
      refine wpAny_tests_one (stopQ ?_)
      k_steps
      refine Stop.mk ⟨rfl, h, _, rfl, .refl, fun _ E'' => stopQ ?_⟩
      k_steps
      exact Stop.mk ⟨h, _, rfl, .refl, rfl⟩
    · intro D2 h5 tk5 zs vs5 hD2 hpl2 hlen2 hP2 hpa2 kp2
      obtain rfl := srcVals hlen2 hP2
      have hzs := compInts (pz := fun n => (x.fdiv (2 ^ n.toNat)).fmod 2 == 1) (f := fun n => n) (fun _ _ => rfl) (fun n t y _ h => ⟨t, h⟩) hys hpa2
      k_steps
      refine Stop.mk (hQ _ _ _ zs.toList (fun b o e => kp2.nil b o (F3.keep b o e)) ?_ (by rw [Array.toArray_toList]; exact hpl2.isList) ?_)
      · cases q : s.heap.get? D2 with
        | none => rfl
        | some o => have := F3.keep _ _ q; rw [hD2] at this; cases this
      · rw [List.map_id'', List.filter_eq_self.mpr (fun _ _ => rfl), List.map_map] at hzs
        exact hzs
        intro; rfl
end Mine

open PySem PySem.W PySem.Spec PySem.Calls PyProof.Rows
set_option Elab.async false
set_option maxRecDepth 100000
set_option maxHeartbeats 8000000
namespace Mine
/-- what stood below an address -/
def cut (L : Nat) (h : Heap) : Heap := ⟨h.objs.extract 0 L, h.life⟩
theorem cut_size (L : Nat) (h : Heap) : (cut L h).objs.size ≤ L := by simp [cut]; omega
theorem cut_get {L : Nat} {h : Heap} {b : Addr} (n : b < L) : (cut L h).get? b = h.get? b := by
  have n' : @LT.lt Nat _ b L := n
  unfold Heap.get? cut
  simp only [Array.getElem?_extract]
  rcases Nat.lt_or_ge b (min L h.objs.size - 0) with q | q
  · rw [if_pos q]; simp
  · rw [if_neg (Nat.not_lt.mpr q)]
    have : h.objs[b]? = none := Array.getElem?_eq_none (by omega)
    rw [this]
theorem cut_of {L : Nat} {h : Heap} {b : Addr} {o : Obj} (e : (cut L h).get? b = some o) : h.get? b = some o := by
  have := Heap.lt_size e
  have l := cut_size L h
  rw [cut_get (Nat.lt_of_lt_of_le this l)] at e
  exact e

/-- what is kept but L and some -/
def Rest (L : Addr) (ex : List Addr) (h h' : Heap) : Prop := ∀ b o, h.get? b = some o → b ≠ L → b ∉ ex → h'.get? b = some o
theorem Rest.isList {L : Addr} {ex : List Addr} {h h' : Heap} (r : Rest L ex h h') {m : Str → Option Value} (ns : h.Ns L m) {a : Addr} {xs : Array Value} (l : h.IsList a xs) (n : a ∉ ex) : h'.IsList a xs := by
  obtain ⟨o, e, hc, k, hd⟩ := l
  refine ⟨o, r a o e (fun q => ?_) n, hc, k, hd⟩
  obtain ⟨o', es, ep, e', hd', _⟩ := ns
  rw [← q, e] at e'; cases e'; rw [hd] at hd'; cases hd'

section
variable {w : World} {mg mb : Str → Option Value} {fl : List Env} {s0 h : Heap} {L : Addr} {m : Str → Option Value}
theorem none_of {s0 h : Heap} (K : Kp fl s0 h) {b : Addr} (e : h.get? b = none) : s0.get? b = none := by
  cases q : s0.get? b with
  | none => rfl
  | some o => obtain ⟨sl, e'⟩ := K.any q; rw [e] at e'; cases e'
/-- the ground of a stretch that the library walks -/
theorem stretch (con : List (Addr × Obj)) (eL : L = s0.objs.size) (G : Ok w mg mb fl s0) (K : Kp fl s0 h) (ns : h.Ns L m) (hc : ∀ p ∈ con, h.get? p.1 = some p.2 ∧ p.1 ≠ L ∧ s0.get? p.1 = none) :
    ∃ base tail, Gd w mg mb base ∧ Kp fl s0 base ∧ Fr base L h m ∧ News base L h (con ++ tail) ∧
      (∀ h' m' news', Fr base L h' m' → News base L h' news' → (∀ p ∈ tail, p ∈ news') → Rest L (con.map (·.1)) h h') := by
  have lt : ∀ b o, s0.get? b = some o → b < L := fun b o e => by rw [eL]; exact Heap.lt_size e
  refine ⟨hideAll (cut L h) (con.map (·.1)), (List.range h.objs.size).filterMap (fun b => if b < L ∨ b = L ∨ b ∈ con.map (·.1) then none else (h.get? b).map fun o => (b, o)), ?_, ?_, ?_, ?_, ?_⟩
  · refine G.g.keeps fun b o e => ?_
    refine hideAll_get _ ?_ fun q => ?_
    · rw [cut_get (lt _ _ (gnd_of e))]
      exact K.gnd' b o e
    · obtain ⟨p, hp, rfl⟩ := List.mem_map.mp q
      have := gnd_of e
      rw [(hc p hp).2.2] at this; cases this
  · have nc : ∀ b o, s0.get? b = some o → b ∉ con.map (·.1) := fun b o e q => by
      obtain ⟨p, hp, rfl⟩ := List.mem_map.mp q
      rw [(hc p hp).2.2] at e; cases e
    refine ⟨fun b o e n => hideAll_get _ (by rw [cut_get (lt _ _ e)]; exact K.keep b o e n) (nc _ _ e), fun b o e n => ?_⟩
    obtain ⟨sl, e'⟩ := K.up b o e n
    exact ⟨sl, hideAll_get _ (by rw [cut_get (lt _ _ e)]; exact e') (nc _ _ e)⟩
  · exact ⟨ns, fun b o e => cut_of (of_hideAll _ e), by rw [hideAll_size]; exact cut_size _ _⟩
  · intro p hp
    rcases List.mem_append.mp hp with hp | hp
    · exact ⟨(hc p hp).1, (hc p hp).2.1, hideAll_none _ (List.mem_map_of_mem hp)⟩
    · obtain ⟨b, hb, e⟩ := List.mem_filterMap.mp hp
      split at e
      · cases e
      · rename_i q
        obtain ⟨o, e1, e2⟩ := Option.map_eq_some_iff.mp e
        subst e2
        refine ⟨e1, fun z => q (.inr (.inl z)), ?_⟩
        cases z : (hideAll (cut L h) (con.map (·.1))).get? b with
        | none => rfl
        | some o' => exact absurd (.inl (Nat.lt_of_lt_of_le (Heap.lt_size (of_hideAll _ z)) (cut_size _ _))) q
  · intro h' m' news' F' N' hs b o e nL nc
    by_cases q : b < L
    · exact F'.keep b o (hideAll_get _ (by rw [cut_get q]; exact e) nc)
    · have z : ¬ (b < L ∨ b = L ∨ b ∈ con.map (·.1)) := fun z => by
        rcases z with z | z | z
        · exact q z
        · exact nL z
        · exact nc z
      refine (N' (b, o) (hs _ (List.mem_filterMap.mpr ⟨b, List.mem_range.mpr (Heap.lt_size e), ?_⟩))).1
      show (if b < L ∨ b = L ∨ b ∈ con.map (·.1) then none else (h.get? b).map fun o => (b, o)) = _
      rw [if_neg z, e]; rfl
end

section
variable {prog : Program} {w : World} {A : Around} {E : Value → Shared → Prop} {env : Env}
/-- a loop over a list or a range -/
theorem for_src {s₁ : Shared} {x : Str} {px : Pos} {body : List Stmt} {xv : Value} {n : Nat} {P : Nat → Value → Prop} {R : Result → Shared → Prop} (S : Src s₁.heap xv n P) (hh : A.handled = none)
    (J : Nat → Heap → Prop) (I : Addr) (hI : I = s₁.heap.objs.size)
    (h0 : ∀ oI, J 0 (s₁.heap.push oI))
    (jI : ∀ i h h' (o : Obj), J i h → h.get? I = some o → (∃ x, o.data = .fields x) → (∀ b o, b ≠ I → h.get? b = some o → h'.get? b = some o) → J i h')
    (jl : ∀ ax its, xv = .ref ax → s₁.heap.IsList ax its → ∀ i h, J i h → h.IsList ax its)
    (step : ∀ i v h tk oI, i < n → P i v → J i h → h.get? I = some oI → (∃ x, oI.data = .fields x) → wpAny (model prog w) A (assign (.Name x px) env v) (fun _ s₂ => wpAny (model prog w) A (execs body env)
      (fun f s₃ => (f = .next ∨ f = .cont) ∧ ∃ h' tk', s₃ = { s₁ with heap := h', toks := tk' } ∧ J (i + 1) h' ∧ h'.get? I = some oI) (notedBy (model prog w) A env fun e s' => R (.error e) s') s₂) (notedBy (model prog w) A env fun e s' => R (.error e) s') { s₁ with heap := h, toks := tk })
    (fin : ∀ h tk, J n h → R (.ok .next) { s₁ with heap := h, toks := tk }) :
    wpAny (model prog w) A (pyIter xv) (fun it s₂ => codeAny (model prog w) A (.forLoop (.Name x px) it body [] env) R s₂) E s₁ := by
  subst hI
  suffices main : ∀ (fp : List Addr) (St : Nat → Heap → Prop) (oI : Obj), Walks prog w A s₁.heap.objs.size fp [s₁.heap.objs.size] n P St → (∀ i h, St i h → ∃ o, h.get? s₁.heap.objs.size = some o ∧ ∃ x, o.data = .fields x) → St 0 (s₁.heap.push oI) →
      (∀ i h h' o, J i h' → St i h → h.get? s₁.heap.objs.size = some o → h'.get? s₁.heap.objs.size = some o → St i h') →
      codeAny (model prog w) A (.forLoop (.Name x px) (.ref s₁.heap.objs.size) body [] env) R { s₁ with heap := s₁.heap.push oI } by
    cases S with
    | @list ax its l hsz =>
      have hlt : ax < s₁.heap.objs.size := by obtain ⟨_, e, _⟩ := l; exact Heap.lt_size e
      refine wpAny_pyIter_list l ?_
      have W := Walks.list (prog := prog) (w := w) hh s₁.heap.objs.size ax (Nat.ne_of_lt hlt) its.toArray
      rw [List.size_toArray] at W
      have W' : Walks prog w A s₁.heap.objs.size [s₁.heap.objs.size, ax] [s₁.heap.objs.size] its.length (fun i v => its[i]? = some v) (fun i h => h.IsListIter s₁.heap.objs.size ax i ∧ h.IsList ax its.toArray) :=
        { sub := W.sub, frame := W.frame, done := W.done, self := W.self, item := fun i s Q E hi st hQ => W.item i s Q E hi st fun v h' tk hP => hQ v h' tk (by simpa using hP) }
      exact main _ _ _ W' (fun i h st => let ⟨o, e, _, d⟩ := st.1; ⟨o, e, _, d⟩) ⟨⟨_, Heap.get?_push_size _ rfl, rfl, rfl⟩, l.push _⟩
        fun i h h' o j st e e' => ⟨let ⟨o', q, r⟩ := st.1; ⟨o', by rw [e', ← e, q], r⟩, jl _ _ rfl l i h' j⟩
    | @range r n t u v l hsz =>
      refine wpAny_pyIter_range l (range_small n hsz) ?_
      have W := (LCg.range_walks (prog := prog) (w := w) hh (I := s₁.heap.objs.size) 0 n).bound
      have W' : Walks prog w A s₁.heap.objs.size [s₁.heap.objs.size] [s₁.heap.objs.size] n (fun i v => i < n ∧ ∃ t, v = .int (i : Int) t) (fun i h => IsRangeIter h s₁.heap.objs.size (0 + (i : Nat) * 1) ((n : Int) - (i : Nat)) 1) :=
        { sub := W.sub, frame := W.frame, done := W.done, self := W.self, item := fun i s Q E hi st hQ => W.item i s Q E hi st fun v h' tk hP => hQ v h' tk (by simpa using hP) }
      exact main _ _ _ W' (fun i h st => ⟨_, st, _, rfl⟩) (by show IsRangeIter _ _ _ _ _; rw [range_size]; simpa using Heap.get?_push_size _ rfl)
        fun i h h' o j st e e' => by
          have st' : h.get? s₁.heap.objs.size = some _ := st
          show h'.get? s₁.heap.objs.size = some _
          rw [e', ← e]; exact st'
  intro fp St oI W hIo hst hS
  refine codeAny_forLoop (fun k s' => ∃ i h tk, k = n - i ∧ i ≤ n ∧ s' = { s₁ with heap := h, toks := tk } ∧ St i h ∧ J i h) ?_ n ⟨0, _, s₁.toks, rfl, Nat.zero_le _, rfl, hst, h0 oI⟩
  rintro k s' ⟨i, h, tk, rfl, hi, rfl, st, j⟩
  obtain ⟨o, ho, fo⟩ := hIo _ _ st
  by_cases hlt : i < n
  · refine W.item i _ _ _ hlt st fun v h₂ tk₂ hPv hst₂ hk₂ => ?_
    obtain ⟨o₂, ho₂, fo₂⟩ := hIo _ _ hst₂
    refine wpAny_mono (step i v h₂ tk₂ o₂ hlt hPv (jI i h h₂ o j ho fo fun b o nb e => hk₂ b o (by simpa using nb) e) ho₂ fo₂) (fun _ s₂ hs₂ => wpAny_mono hs₂ (fun f s₃ h₃ => ?_) fun _ _ e => e) fun _ _ e => e
    obtain ⟨hf, h₃, tk₃, rfl, j₃, e₃⟩ := h₃
    have st₃ := hS _ _ _ _ j₃ hst₂ ho₂ e₃
    have : ∃ m, m < n - i ∧ ∃ i h tk, m = n - i ∧ i ≤ n ∧ ({ s₁ with heap := h₃, toks := tk₃ } : Shared) = { s₁ with heap := h, toks := tk } ∧ St i h ∧ J i h :=
      ⟨n - (i + 1), by omega, i + 1, h₃, tk₃, rfl, hlt, rfl, st₃, j₃⟩
    rcases hf with rfl | rfl <;> exact this
  · obtain rfl : i = n := Nat.le_antisymm hi (Nat.not_lt.mp hlt)
    refine W.done _ _ _ st fun h₂ tk₂ hk₂ => ?_
    exact wpAny_pure (fin h₂ tk₂ (jI i h h₂ o j ho fo fun b o nb e => hk₂ b o (by simpa using nb) e))
end
end Mine

open PySem PySem.W PySem.Spec PySem.Calls PyProof.Rows
set_option Elab.async false
set_option maxRecDepth 100000
set_option maxHeartbeats 8000000
namespace Mine
def Cell (h : Heap) (c : Addr) (v : Option Value) : Prop := ∃ o, h.get? c = some o ∧ o.data = .cell v
theorem Cell.any {h h' : Heap} {c : Addr} {v : Option Value} (x : Cell h c v) (k : ∀ o, h.get? c = some o → ∃ sl, h'.get? c = some { o with slots := sl }) : Cell h' c v := let ⟨o, e, d⟩ := x; let ⟨_, e'⟩ := k o e; ⟨_, e', d⟩
/-- the state of a call with cells: its frame and its cells, from the address behind the frame on -/
structure SS (fl : List Env) (s0 : Heap) (L : Addr) (h : Heap) (m : Str → Option Value) (cs : List (Option Value)) : Prop where
  k : Kp fl s0 h
  ns : h.Ns L m
  c : ∀ j v, cs[j]? = some v → Cell h (L + 1 + j) v
section
variable {w : World} {mg mb : Str → Option Value} {fl : List Env} {s0 h h' : Heap} {L : Nat} {m m' : Str → Option Value} {cs : List (Option Value)} {env : Env}
theorem mem_push (hL : env.frame = some L) : ∀ c, c ∈ fr (env :: fl) ↔ c = L ∨ c ∈ fr fl := fun c => by unfold fr; rw [List.filterMap_cons, hL]; exact List.mem_cons
theorem SS.kp (x : SS fl s0 L h m cs) (k : Kp (env :: fl) h h') (hL : env.frame = some L) (eL : L = s0.objs.size) : SS fl s0 L h' m cs := by
  refine ⟨⟨fun b o e n => k.keep b o (x.k.keep b o e n) fun q => ?_, fun b o e n => ?_⟩, ?_, fun j v e => (x.c j v e).any fun o e => k.any e⟩
  · rcases (mem_push hL b).mp q with q | q
    · exact absurd (Heap.lt_size e) (by rw [q, eL]; exact Nat.lt_irrefl _)
    · exact n q
  · obtain ⟨sl, e1⟩ := x.k.up b o e n
    obtain ⟨sl', e2⟩ := k.any e1
    exact ⟨sl', e2⟩
  · obtain ⟨o, es, ep, e, hd, r⟩ := x.ns
    obtain ⟨sl, e'⟩ := k.any e
    exact ⟨_, es, ep, e', hd, r⟩
theorem SS.stays (x : SS fl s0 L h m cs) (k : h.StaysIn h') : SS fl s0 L h' m cs :=
  ⟨x.k.stays k, x.ns.at' fun o e => k L o e, fun j v e => (x.c j v e).any fun o e => ⟨o.slots, k _ o e⟩⟩
/-- a change of an object that is newer than the cells -/
theorem SS.but (x : SS fl s0 L h m cs) {I : Nat} (k : ∀ b o, b ≠ I → h.get? b = some o → h'.get? b = some o) (eL : L = s0.objs.size) (n : L + cs.length < I) : SS fl s0 L h' m cs := by
  have ne : ∀ b o, s0.get? b = some o → b ≠ I := fun b o e q => by
    have q1 := Heap.lt_size e
    rw [q] at q1
    have q2 : @LT.lt Nat _ I s0.objs.size := q1
    omega
  refine ⟨⟨fun b o e nf => k b o (ne _ _ e) (x.k.keep b o e nf), fun b o e nf => ?_⟩, x.ns.at' fun o e => k L o (by show @Ne Nat L I; omega) e, fun j v e => ?_⟩
  · obtain ⟨sl, e'⟩ := x.k.up b o e nf
    exact ⟨sl, k _ _ (ne _ _ e) e'⟩
  · have hj : @LT.lt Nat _ j cs.length := (List.getElem?_eq_some_iff.mp e).1
    have hne : @Ne Nat (L + 1 + j) I := by omega
    exact (x.c j v e).any fun o e => ⟨o.slots, k _ o hne e⟩
/-- a cell is written -/
theorem SS.set (x : SS fl s0 L h m cs) {i : Nat} {v : Option Value} (hi : i < cs.length) (k : ∀ b o, b ≠ L + 1 + i → h.get? b = some o → h'.get? b = some o) (c : Cell h' (L + 1 + i) v) (eL : L = s0.objs.size) : SS fl s0 L h' m (cs.set i v) := by
  have ne : ∀ b o, s0.get? b = some o → b ≠ L + 1 + i := fun b o e q => by
    have q1 := Heap.lt_size e
    rw [q] at q1
    have q2 : @LT.lt Nat _ (L + 1 + i) s0.objs.size := q1
    omega
  refine ⟨⟨fun b o e nf => k b o (ne _ _ e) (x.k.keep b o e nf), fun b o e nf => ?_⟩, x.ns.at' fun o e => k L o (by show @Ne Nat L (L + 1 + i); omega) e, fun j u e => ?_⟩
  · obtain ⟨sl, e'⟩ := x.k.up b o e nf
    exact ⟨sl, k _ _ (ne _ _ e) e'⟩
  · by_cases hj : i = j
    · subst hj
      rw [List.getElem?_set_self hi] at e
      cases e; exact c
    · rw [List.getElem?_set_ne hj] at e
      exact (x.c j u e).any fun o e => ⟨o.slots, k _ o (by show @Ne Nat (L + 1 + j) (L + 1 + i); omega) e⟩
theorem SS.frame (x : SS fl s0 L h m cs) (k : Heap.SameBut L h h') (n : h'.Ns L m') (eL : L = s0.objs.size) : SS fl s0 L h' m' cs := by
  have ne : ∀ b o, s0.get? b = some o → b ≠ L := fun b o e q => by
    have q1 := Heap.lt_size e
    rw [q, eL] at q1
    exact Nat.lt_irrefl _ q1
  refine ⟨⟨fun b o e nf => k.extBut b o (ne _ _ e) (x.k.keep b o e nf), fun b o e nf => ?_⟩, n, fun j u e => ?_⟩
  · obtain ⟨sl, e'⟩ := x.k.up b o e nf
    exact ⟨sl, k.extBut _ _ (ne _ _ e) e'⟩
  · exact (x.c j u e).any fun o e => ⟨o.slots, k.extBut _ o (by show @Ne Nat (L + 1 + j) L; omega) e⟩
theorem SS.ok (x : SS fl s0 L h m cs) (G : Ok w mg mb fl s0) (hk : env.scope.kind ≠ .module) (hL : env.frame = some L) (eL : L = s0.objs.size) : Ok w mg mb (env :: fl) h := by
  refine ⟨G.g.keeps fun b o e => gnd_get (x.k.gnd' b o e) fun q => ?_, (G.f.kp x.k).push hk hL x.ns⟩
  rcases (mem_push hL b).mp q with q | q
  · have := Heap.lt_size (gnd_of e)
    rw [q, eL] at this; exact Nat.lt_irrefl _ this
  · exact gnd_not e q
/-- open a stretch: the library walks on from here -/
theorem SS.open5 {v1 v2 v3 v4 v5 : Option Value} (x : SS fl s0 L h m [v1, v2, v3, v4, v5]) (ex : List (Addr × Obj)) (G : Ok w mg mb fl s0) (eL : L = s0.objs.size) (hex : ∀ p ∈ ex, h.get? p.1 = some p.2 ∧ p.1 ≠ L ∧ s0.get? p.1 = none) :
    ∃ base tail o1 o2 o3 o4 o5, (hd.heap_39 w.params).In base ∧ TopRead hd.view_39 (looseW hd.view_39 [Str.ofString "filterfalse"]) mg mb base ∧ Fr base L h m ∧
      News base L h (ex ++ ((L + 1, o1) :: (L + 2, o2) :: (L + 3, o3) :: (L + 4, o4) :: (L + 5, o5) :: tail)) ∧ o1.data = .cell v1 ∧ o2.data = .cell v2 ∧ o3.data = .cell v3 ∧ o4.data = .cell v4 ∧ o5.data = .cell v5 ∧
      (∀ h' m' news', Fr base L h' m' → News base L h' news' → (∀ p ∈ (L + 1, o1) :: (L + 2, o2) :: (L + 3, o3) :: (L + 4, o4) :: (L + 5, o5) :: tail, p ∈ news') → SS fl s0 L h' m' [v1, v2, v3, v4, v5] ∧ Rest L (ex.map (·.1)) h h') ∧
      ∀ b, base.get? b = none → s0.get? b = none := by
  obtain ⟨o1, e1, d1⟩ := x.c 0 v1 rfl
  obtain ⟨o2, e2, d2⟩ := x.c 1 v2 rfl
  obtain ⟨o3, e3, d3⟩ := x.c 2 v3 rfl
  obtain ⟨o4, e4, d4⟩ := x.c 3 v4 rfl
  obtain ⟨o5, e5, d5⟩ := x.c 4 v5 rfl
  have nn : ∀ j, s0.get? (L + 1 + j) = none := fun j => Heap.get?_none_of_le (by rw [← eL]; show @LE.le Nat _ L (L + 1 + j); omega)
  obtain ⟨base, tail, g, K, F, N, cov⟩ := stretch (ex ++ [(L + 1, o1), (L + 2, o2), (L + 3, o3), (L + 4, o4), (L + 5, o5)]) eL G x.k x.ns (fun p hp => by
    rcases List.mem_append.mp hp with hp | hp
    · exact hex p hp
    · simp only [List.mem_cons, List.not_mem_nil, or_false] at hp
      rcases hp with rfl | rfl | rfl | rfl | rfl
      · exact ⟨e1, by show @Ne Nat (L + 1) L; omega, nn 0⟩
      · exact ⟨e2, by show @Ne Nat (L + 2) L; omega, nn 1⟩
      · exact ⟨e3, by show @Ne Nat (L + 3) L; omega, nn 2⟩
      · exact ⟨e4, by show @Ne Nat (L + 4) L; omega, nn 3⟩
      · exact ⟨e5, by show @Ne Nat (L + 5) L; omega, nn 4⟩)
  refine ⟨base, tail, o1, o2, o3, o4, o5, g.X, g.T, F, by simpa using N, d1, d2, d3, d4, d5, fun h' m' news' F' N' hs => ⟨⟨K.stays F'.keep, F'.ns, ?_⟩, ?_⟩, fun b e => none_of K e⟩
  · intro j v e
    have hj : j < 5 := (List.getElem?_eq_some_iff.mp e).1
    match j, hj, e with
    | 0, _, e => cases e; exact ⟨o1, (N' _ (hs (L + 1, o1) (by simp))).1, d1⟩
    | 1, _, e => cases e; exact ⟨o2, (N' _ (hs (L + 2, o2) (by simp))).1, d2⟩
    | 2, _, e => cases e; exact ⟨o3, (N' _ (hs (L + 3, o3) (by simp))).1, d3⟩
    | 3, _, e => cases e; exact ⟨o4, (N' _ (hs (L + 4, o4) (by simp))).1, d4⟩
    | 4, _, e => cases e; exact ⟨o5, (N' _ (hs (L + 5, o5) (by simp))).1, d5⟩
  · have R := cov h' m' news' F' N' fun p hp => hs p (by simp [hp])
    intro b o e nL nx
    by_cases q : b ∈ [L + 1, L + 2, L + 3, L + 4, L + 5]
    · simp only [List.mem_cons, List.not_mem_nil, or_false] at q
      rcases q with rfl | rfl | rfl | rfl | rfl
      · rw [← e]; exact ((N' _ (hs (L + 1, o1) (by simp))).1).trans e1.symm
      · rw [← e]; exact ((N' _ (hs (L + 2, o2) (by simp))).1).trans e2.symm
      · rw [← e]; exact ((N' _ (hs (L + 3, o3) (by simp))).1).trans e3.symm
      · rw [← e]; exact ((N' _ (hs (L + 4, o4) (by simp))).1).trans e4.symm
      · rw [← e]; exact ((N' _ (hs (L + 5, o5) (by simp))).1).trans e5.symm
    · refine R b o e nL ?_
      rw [List.map_append]
      intro z
      rcases List.mem_append.mp z with z | z
      · exact nx z
      · exact q (by simpa using z)
end
section
variable {prog : Program} {w : World} {A : Around} {E : Value → Shared → Prop} {fl : List Env} {env : Env}
/-- a comprehension in a body that makes calls -/
theorem comp_evE {s : Shared} {elt iter : Expr} {x : Str} {px : Pos} {ifs : List Expr} {scope : Scope} {cl : List (Str × Addr)} {pos : Pos} {Q : Value → Shared → Prop} (fl : List Env) (p : Value → Bool) (F : Heap → Value → Value → Prop)
    (hF : ∀ h h' v y, Kp (env :: fl) h h' → F h v y → F h' v y) (hh : A.handled = none)
    (hclos : closureFor scope env = pure cl) (hcell : ∀ y ∈ scope.names, y.2 ≠ .cell) (hkind : scope.kind = .function)
    (hnames : ∀ y ∈ scope.names, y.2 = .local → scope.names.lookup y.1 = some .local) (hx : scope.names.lookup x = some .local)
    (h : wpAny (model prog w) A (eval iter env) (fun xv s₁ => ∃ n P, Src s₁.heap xv n P ∧ Fms (env :: fl) s₁.heap ∧ CStep prog w A env scope cl x ifs elt (env :: fl) s₁.heap P p F s₁ ∧
      (∀ D h' tk ys (vs : List Value), s₁.heap.get? D = none → h'.PlainList D ys → vs.length = n → (∀ j v, vs[j]? = some v → P j v) → Paired (F (hideAll h' [D])) (vs.filter p) ys.toList → Kp (env :: fl) s₁.heap h' → Q (.ref D) { s₁ with heap := h', toks := tk })) E s)
    (hs : ∀ x, foldedSetIterable iter env x = pure x := by intro _; rfl) :
    wpAny (model prog w) A (eval (.ListComp elt [⟨.Name x px, iter, ifs, 0⟩] scope pos) env) Q E s :=
  comp_ev p F hF hh hclos hcell hkind hnames hx h hs
end
end Mine

open PySem PySem.W PySem.Spec PySem.Calls PyProof.Rows
set_option Elab.async false
set_option maxRecDepth 100000
set_option maxHeartbeats 8000000
namespace Mine
/-- what is kept: all but names' tables, cells and some -/
def Keep' (ex : List Addr) (h h' : Heap) : Prop := ∀ c o, h.get? c = some o → (∀ es ep, o.data ≠ .dict es ep) → (∀ v, o.data ≠ .cell v) → c ∉ ex → h'.get? c = some o
theorem Keep'.isList {h h' : Heap} (k : Keep' ex h h') {a : Addr} {xs : Array Value} (l : h.IsList a xs) (n : a ∉ ex) : h'.IsList a xs := by
  obtain ⟨o, e, hc, j, hd⟩ := l
  exact ⟨o, k a o e (fun _ _ q => by rw [hd] at q; cases q) (fun _ q => by rw [hd] at q; cases q) n, hc, j, hd⟩
theorem Keep'.trans {ex : List Addr} {h₁ h₂ h₃ : Heap} (x : Keep' ex h₁ h₂) (y : Keep' ex h₂ h₃) : Keep' ex h₁ h₃ := fun c o e a b n => y c o (x c o e a b n) a b n
theorem Keep'.kp {fl : List Env} {h h' : Heap} (k : Kp fl h h') (f : Fms fl h) : Keep' [] h h' := fun c o e nd _ _ => k.keep c o e (f.not_mem e nd)
theorem Keep'.rest {L : Addr} {h h' : Heap} {m : Str → Option Value} (r : Rest L [] h h') (ns : h.Ns L m) : Keep' [] h h' := fun c o e nd _ _ => r c o e (fun q => by
  obtain ⟨o', es, ep, e', hd, _⟩ := ns
  rw [← q, e] at e'; cases e'; exact nd _ _ hd) (fun q => nomatch q)
theorem Keep'.cell {c : Addr} {h h' : Heap} {v : Option Value} (k : ∀ b o, b ≠ c → h.get? b = some o → h'.get? b = some o) (x : Cell h c v) : Keep' [] h h' := fun b o e _ nc _ => k b o (fun q => by
  obtain ⟨o', e', d⟩ := x
  rw [← q, e] at e'; cases e'; exact nc _ d) e
theorem Keep'.frame {L : Addr} {h h' : Heap} {m : Str → Option Value} (k : ∀ b o, b ≠ L → h.get? b = some o → h'.get? b = some o) (ns : h.Ns L m) : Keep' [] h h' := fun c o e nd _ _ => k c o (fun q => by
  obtain ⟨o', es, ep, e', hd, _⟩ := ns
  rw [← q, e] at e'; cases e'; exact nd _ _ hd) e
theorem Keep'.stays {h h' : Heap} (k : h.StaysIn h') : Keep' ex h h' := fun c o e _ _ _ => k c o e
theorem Keep'.hide {ex ex' : List Addr} {h h' : Heap} (k : Keep' ex h h') (n : ∀ a, a ∈ ex → a ∈ ex') : Keep' [] (hideAll h ex') (hideAll h' ex') := fun c o e a b _ => by
  have hc : c ∉ ex' := fun q => by rw [hideAll_none _ q] at e; cases e
  exact hideAll_get _ (k c o (of_hideAll _ e) a b fun q => hc (n _ q)) hc

/-- a row of ints, at an address that is not Ld -/
def rowAt (Ld : Addr) (h : Heap) (v : Value) (r : List Int) : Prop := ∃ a zs, v = .ref a ∧ a ≠ Ld ∧ h.IsList a (List.toArray zs) ∧ IntsAre zs r
theorem rowAt.keep {Ld : Addr} {h h' : Heap} {v : Value} {r : List Int} (k : Keep' [] h h') (x : rowAt Ld h v r) : rowAt Ld h' v r := let ⟨a, zs, e, n, l, i⟩ := x; ⟨a, zs, e, n, k.isList l (fun q => nomatch q), i⟩
theorem rowAt.but {Ld : Addr} {ex : List Addr} {h h' : Heap} {v : Value} {r : List Int} (k : Keep' ex h h') (x : rowAt Ld h v r) (n : ∀ a xs, h.IsList a xs → a ≠ Ld → a ∉ ex) : rowAt Ld h' v r := let ⟨a, zs, e, n', l, i⟩ := x; ⟨a, zs, e, n', k.isList l (n _ _ l n'), i⟩

structure TT (fl : List Env) (s0 : Heap) (L : Nat) (b Ld St : Addr) (h : Heap) (m : Str → Option Value) (vl vd : Option Value) (leads : List Int) (M : List (List Int)) (al : List (Addr × Obj)) (ls : List (Addr × List Int)) : Prop where
  ss : SS fl s0 L h m [some (.ref b), some (.ref Ld), some (.ref St), vl, vd]
  ld : ∃ lvs n, h.get? Ld = some { cls := .type "list", data := .seq lvs n } ∧ IntsAre lvs.toList leads
  st : ∃ rfs n, h.get? St = some { cls := .type "list", data := .seq rfs n } ∧ Paired (rowAt Ld (hideAll h [St])) rfs.toList M
  nLd : s0.get? Ld = none
  nSt : s0.get? St = none
  ne : Ld ≠ St
  al : ∀ p ∈ al, h.get? p.1 = some p.2 ∧ @LT.lt Nat _ (L + 5) p.1 ∧ ∃ x, p.2.data = .fields x
  ls : ∀ p ∈ ls, p.1 ≠ Ld ∧ p.1 ≠ St ∧ ∃ zs, h.IsList p.1 (List.toArray zs) ∧ IntsAre zs p.2
section
variable {w : World} {mg mb : Str → Option Value} {fl : List Env} {s0 h h' : Heap} {L : Nat} {b Ld St : Addr} {m m' : Str → Option Value} {vl vd vl' vd' : Option Value} {leads leads' : List Int} {M M' : List (List Int)} {al : List (Addr × Obj)} {ls : List (Addr × List Int)} {env : Env}
theorem seqNot {d : Data} {xs : Array Value} {n : Nat} (e : d = .seq xs n) : (∀ es ep, d ≠ .dict es ep) ∧ (∀ v, d ≠ .cell v) := ⟨fun _ _ q => (by rw [e] at q; cases q), fun _ q => (by rw [e] at q; cases q)⟩
theorem TT.mv (x : TT fl s0 L b Ld St h m vl vd leads M al ls) (ss' : SS fl s0 L h' m' [some (.ref b), some (.ref Ld), some (.ref St), vl', vd']) (k : Keep' [] h h') : TT fl s0 L b Ld St h' m' vl' vd' leads M al ls := by
  obtain ⟨lvs, n, e1, i1⟩ := x.ld
  obtain ⟨rfs, n2, e2, i2⟩ := x.st
  refine ⟨ss', ⟨lvs, n, k _ _ e1 (seqNot rfl).1 (seqNot rfl).2 (fun q => nomatch q), i1⟩, ⟨rfs, n2, k _ _ e2 (seqNot rfl).1 (seqNot rfl).2 (fun q => nomatch q), i2.mono fun _ _ => rowAt.keep (k.hide fun _ q => nomatch q)⟩, x.nLd, x.nSt, x.ne, fun p hp => ?_, fun p hp => ?_⟩
  · obtain ⟨e, l, y, d⟩ := x.al p hp
    exact ⟨k _ _ e (fun _ _ q => by rw [d] at q; cases q) (fun _ q => by rw [d] at q; cases q) (fun q => nomatch q), l, y, d⟩
  · obtain ⟨n1, n2, zs, l, i⟩ := x.ls p hp
    exact ⟨n1, n2, zs, k.isList l (fun q => nomatch q), i⟩
theorem TT.kp (x : TT fl s0 L b Ld St h m vl vd leads M al ls) (G : Ok w mg mb fl s0) (k : Kp (env :: fl) h h') (hk : env.scope.kind ≠ .module) (hL : env.frame = some L) (eL : L = s0.objs.size) : TT fl s0 L b Ld St h' m vl vd leads M al ls :=
  x.mv (x.ss.kp k hL eL) (.kp k (x.ss.ok G hk hL eL).f)
theorem TT.rest (x : TT fl s0 L b Ld St h m vl vd leads M al ls) (ss' : SS fl s0 L h' m' [some (.ref b), some (.ref Ld), some (.ref St), vl, vd]) (r : Rest L [] h h') : TT fl s0 L b Ld St h' m' vl vd leads M al ls :=
  x.mv ss' (.rest r x.ss.ns)
theorem TT.left (x : TT fl s0 L b Ld St h m vl vd leads M al ls) (k : ∀ b o, b ≠ L + 1 + 3 → h.get? b = some o → h'.get? b = some o) {v : Option Value} (c : Cell h' (L + 1 + 3) v) (eL : L = s0.objs.size) : TT fl s0 L b Ld St h' m v vd leads M al ls :=
  x.mv (x.ss.set (i := 3) (by show 3 < 5; decide) k c eL) (.cell k (x.ss.c 3 _ rfl))
theorem TT.lead (x : TT fl s0 L b Ld St h m vl vd leads M al ls) (k : ∀ b o, b ≠ L + 1 + 4 → h.get? b = some o → h'.get? b = some o) {v : Option Value} (c : Cell h' (L + 1 + 4) v) (eL : L = s0.objs.size) : TT fl s0 L b Ld St h' m vl v leads M al ls :=
  x.mv (x.ss.set (i := 4) (by show 4 < 5; decide) k c eL) (.cell k (x.ss.c 4 _ rfl))
theorem TT.frame (x : TT fl s0 L b Ld St h m vl vd leads M al ls) (k : Heap.SameBut L h h') (n : h'.Ns L m') (eL : L = s0.objs.size) : TT fl s0 L b Ld St h' m' vl vd leads M al ls :=
  x.mv (x.ss.frame k n eL) (.frame (fun b o n e => k.extBut b o n e) x.ss.ns)
/-- an iterator moves on -/
theorem TT.iter (x : TT fl s0 L b Ld St h m vl vd leads M al ls) {I : Nat} {o : Obj} (k : ∀ b o, b ≠ I → h.get? b = some o → h'.get? b = some o) (e : h.get? I = some o) (d : ∃ y, o.data = .fields y) (hI : L + 5 < I) (na : ∀ p ∈ al, p.1 ≠ I) (eL : L = s0.objs.size) : TT fl s0 L b Ld St h' m vl vd leads M al ls := by
  obtain ⟨y, d⟩ := d
  obtain ⟨lvs, n, e1, i1⟩ := x.ld
  obtain ⟨rfs, n2, e2, i2⟩ := x.st
  have nl : ∀ (h : Heap) a xs, h.get? I = some o → h.IsList a xs → a ≠ I := fun h a xs e l q => by
    obtain ⟨o', e', _, j, hd⟩ := l
    rw [q, e] at e'; cases e'; rw [d] at hd; cases hd
  have nLd : Ld ≠ I := nl h Ld _ e ⟨_, e1, rfl, _, rfl⟩
  have nSt : St ≠ I := nl h St _ e ⟨_, e2, rfl, _, rfl⟩
  have k' : Keep' [I] h h' := fun c o e _ _ n => k c o (by simpa using n) e
  have eh : (hideAll h [St]).get? I = some o := hideAll_get _ e (by simpa using Ne.symm nSt)
  refine ⟨x.ss.but k eL (by show L + 5 < I; exact hI), ⟨lvs, n, k _ _ nLd e1, i1⟩, ⟨rfs, n2, k _ _ nSt e2, i2.mono fun v r z => ?_⟩, x.nLd, x.nSt, x.ne, fun p hp => ?_, fun p hp => ?_⟩
  · obtain ⟨a, zs, ev, na, l, i⟩ := z
    refine ⟨a, zs, ev, na, ?_, i⟩
    have n1 := nl _ a _ eh l
    obtain ⟨o', e', r⟩ := l
    have n2 : a ∉ [St] := fun q => by rw [hideAll_none _ q] at e'; cases e'
    exact ⟨o', hideAll_get _ (k _ _ n1 (of_hideAll _ e')) n2, r⟩
  · obtain ⟨e, l, y, d⟩ := x.al p hp
    exact ⟨k _ _ (na p hp) e, l, y, d⟩
  · obtain ⟨n1, n2, zs, l, i⟩ := x.ls p hp
    exact ⟨n1, n2, zs, k'.isList l (by simpa using nl _ _ _ e l), i⟩
theorem TT.also (x : TT fl s0 L b Ld St h m vl vd leads M al ls) {I : Nat} {o : Obj} (e : h.get? I = some o) (d : ∃ y, o.data = .fields y) (hI : L + 5 < I) : TT fl s0 L b Ld St h m vl vd leads M ((I, o) :: al) ls :=
  ⟨x.ss, x.ld, x.st, x.nLd, x.nSt, x.ne, (fun p hp => by
    rcases List.mem_cons.mp hp with rfl | hp
    · exact ⟨e, hI, d⟩
    · exact x.al p hp), x.ls⟩
theorem TT.less (x : TT fl s0 L b Ld St h m vl vd leads M al ls) {al' : List (Addr × Obj)} {ls' : List (Addr × List Int)} (ha : ∀ p ∈ al', p ∈ al) (hl : ∀ p ∈ ls', p ∈ ls) : TT fl s0 L b Ld St h m vl vd leads M al' ls' :=
  { x with al := fun p hp => x.al p (ha p hp), ls := fun p hp => x.ls p (hl p hp) }
theorem TT.list (x : TT fl s0 L b Ld St h m vl vd leads M al ls) {a : Addr} {zs : List Value} {r : List Int} (n1 : a ≠ Ld) (n2 : a ≠ St) (l : h.IsList a zs.toArray) (i : IntsAre zs r) : TT fl s0 L b Ld St h m vl vd leads M al ((a, r) :: ls) :=
  ⟨x.ss, x.ld, x.st, x.nLd, x.nSt, x.ne, x.al, (fun p hp => by
    rcases List.mem_cons.mp hp with rfl | hp
    · exact ⟨n1, n2, zs, l, i⟩
    · exact x.ls p hp)⟩
variable {lf D : Addr} {left r r' : List Int} {v : Value}
theorem TT.room (x : TT fl s0 L b Ld St h m vl vd leads M al ls) : @LT.lt Nat _ (L + 5) h.objs.size := by
  obtain ⟨o, e, _⟩ := x.ss.c 4 _ rfl
  exact Heap.lt_size e
theorem rowAt.one {h : Heap} {v : Value} {r r' : List Int} (x : rowAt Ld h v r) (y : rowAt Ld h v r') : r = r' := by
  obtain ⟨a, zs, rfl, _, ⟨o, e, _, n, d⟩, i⟩ := x
  obtain ⟨a', zs', q, _, ⟨o', e', _, n', d'⟩, i'⟩ := y
  cases q
  rw [e] at e'; cases e'; rw [d] at d'
  have : zs = zs' := by injection d' with q _; simpa using q
  subst this
  clear e d d'
  induction i generalizing r' with
  | nil => cases i'; rfl
  | cons n t _ ih => cases i' with | cons _ _ j => rw [ih j]
theorem rowAt.kp (x : rowAt Ld h v r) (k : Kp fl h h') : rowAt Ld h' v r := let ⟨a, zs, e, n, l, i⟩ := x; ⟨a, zs, e, n, k.isList l, i⟩
/-- the rows that stand are exchanged -/
theorem TT.newSt (x : TT fl s0 L b Ld St h m vl vd leads M al ls) {D : Addr} {ys : Array Value} (hD : h'.PlainList D ys) (nD : s0.get? D = none) (nLD : Ld ≠ D) (nl : ∀ p ∈ ls, p.1 ≠ D) (k : ∀ b o, b ≠ L + 1 + 2 → h.get? b = some o → h'.get? b = some o) (c : Cell h' (L + 1 + 2) (some (.ref D))) (pr : Paired (rowAt Ld (hideAll h' [D])) ys.toList M') (eL : L = s0.objs.size) :
    TT fl s0 L b Ld D h' m vl vd leads M' al ls := by
  have y := x.mv (m' := m) (vl' := vl) (vd' := vd) (h' := h) x.ss (.stays fun _ _ e => e)
  have kk : Keep' [] h h' := .cell k (x.ss.c 2 _ rfl)
  obtain ⟨lvs, n, e1, i1⟩ := x.ld
  obtain ⟨n2, e2⟩ := hD
  refine ⟨x.ss.set (i := 2) (by show 2 < 5; decide) k c eL, ⟨lvs, n, kk _ _ e1 (seqNot rfl).1 (seqNot rfl).2 (fun q => nomatch q), i1⟩, ⟨ys, n2, e2, pr⟩, x.nLd, nD, nLD, fun p hp => ?_, fun p hp => ?_⟩
  · obtain ⟨e, l, y, d⟩ := x.al p hp
    exact ⟨kk _ _ e (fun _ _ q => (by rw [d] at q; cases q)) (fun _ q => (by rw [d] at q; cases q)) (fun q => nomatch q), l, y, d⟩
  · obtain ⟨n1, _, zs, l, i⟩ := x.ls p hp
    exact ⟨n1, nl p hp, zs, kk.isList l (fun q => nomatch q), i⟩
/-- a row more -/
theorem TT.addSt (x : TT fl s0 L b Ld St h m vl vd leads M al ((lf, left) :: ls)) {rfs : Array Value} {n n' : Nat} (e : h.get? St = some { cls := .type "list", data := .seq rfs n }) (k : Heap.SameBut St h h') (e' : h'.get? St = some { cls := .type "list", data := .seq (rfs.push (.ref lf)) n' }) :
    TT fl s0 L b Ld St h' m vl vd leads (M ++ [left]) al ((lf, left) :: ls) := by
  obtain ⟨lvs, n1, e1, i1⟩ := x.ld
  obtain ⟨rfs2, n2, e2, i2⟩ := x.st
  rw [e] at e2; cases e2
  have kb : ∀ b o, b ≠ St → h.get? b = some o → h'.get? b = some o := fun b o n e => k.extBut b o n e
  have kk : Keep' [] (hideAll h [St]) (hideAll h' [St]) := by
    refine Keep'.hide (ex := [St]) (fun c o e _ _ n => kb c o (by simpa using n) e) fun _ h => h
  have nl : ∀ a v, Cell h a v → a ≠ St := fun a v ⟨o, eo, d⟩ q => by rw [q, e] at eo; cases eo; cases d
  have nd : ∀ b, b ∈ fr fl → s0.get? b ≠ none → b ≠ St := fun b _ hs q => hs (q ▸ x.nSt)
  have s0n : ∀ b o, s0.get? b = some o → b ≠ St := fun b o e q => by rw [q, x.nSt] at e; cases e
  have nL : L ≠ St := fun q => by
    obtain ⟨o, es, ep, eo, hd, _⟩ := x.ss.ns
    rw [q, e] at eo; cases eo; cases hd
  refine ⟨⟨⟨fun b o e nf => kb b o (s0n _ _ e) (x.ss.k.keep b o e nf), fun b o e nf => ?_⟩, x.ss.ns.at' fun o e => kb L o nL e, fun j v q => ?_⟩, ⟨lvs, n1, kb _ _ x.ne e1, i1⟩, ⟨_, n', e', ?_⟩, x.nLd, x.nSt, x.ne, fun p hp => ?_, fun p hp => ?_⟩
  · obtain ⟨sl, e'⟩ := x.ss.k.up b o e nf
    exact ⟨sl, kb _ _ (s0n _ _ e) e'⟩
  · exact (x.ss.c j v q).any fun o e => ⟨o.slots, kb _ o (nl _ _ (x.ss.c j v q)) e⟩
  · rw [Array.toList_push]
    refine Paired.snoc (i2.mono fun _ _ => rowAt.keep kk) ?_
    obtain ⟨n1, n2, zs, l, i⟩ := x.ls _ (.head _)
    exact ⟨lf, zs, rfl, n1, isList_hide (l.extBut k.extBut n2) (by simpa using n2), i⟩
  · obtain ⟨e2, l, y, d⟩ := x.al p hp
    exact ⟨kb _ _ (fun q => by rw [q, e] at e2; injection e2 with e2; rw [← e2] at d; cases d) e2, l, y, d⟩
  · obtain ⟨n1, n2, zs, l, i⟩ := x.ls p hp
    exact ⟨n1, n2, zs, l.extBut k.extBut n2, i⟩
/-- a lead more -/
theorem TT.addLd (x : TT fl s0 L b Ld St h m vl vd leads M al ls) {lvs : Array Value} {n n' : Nat} {z : Int} {t : Tok} (e : h.get? Ld = some { cls := .type "list", data := .seq lvs n }) (k : Heap.SameBut Ld h h') (e' : h'.get? Ld = some { cls := .type "list", data := .seq (lvs.push (.int z t)) n' }) :
    TT fl s0 L b Ld St h' m vl vd (leads ++ [z]) M al ls := by
  obtain ⟨lvs2, n1, e1, i1⟩ := x.ld
  obtain ⟨rfs2, n2, e2, i2⟩ := x.st
  rw [e] at e1; cases e1
  have kb : ∀ b o, b ≠ Ld → h.get? b = some o → h'.get? b = some o := fun b o n e => k.extBut b o n e
  have nl : ∀ a v, Cell h a v → a ≠ Ld := fun a v ⟨o, eo, d⟩ q => by rw [q, e] at eo; cases eo; cases d
  have s0n : ∀ b o, s0.get? b = some o → b ≠ Ld := fun b o e q => by rw [q, x.nLd] at e; cases e
  have nL : L ≠ Ld := fun q => by
    obtain ⟨o, es, ep, eo, hd, _⟩ := x.ss.ns
    rw [q, e] at eo; cases eo; cases hd
  have rr : Paired (rowAt Ld (hideAll h' [St])) rfs2.toList M := i2.mono fun v r hx => by
    obtain ⟨a, zs, ev, na, l, i⟩ := hx
    obtain ⟨o, eo, r⟩ := l
    have hc : a ∉ [St] := fun q => by rw [hideAll_none _ q] at eo; cases eo
    exact ⟨a, zs, ev, na, ⟨o, hideAll_get _ (kb _ _ na (of_hideAll _ eo)) hc, r⟩, i⟩
  refine ⟨⟨⟨fun b o e nf => kb b o (s0n _ _ e) (x.ss.k.keep b o e nf), fun b o e nf => ?_⟩, x.ss.ns.at' fun o e => kb L o nL e, fun j v q => ?_⟩, ⟨_, n', e', ?_⟩, ⟨rfs2, n2, kb _ _ (Ne.symm x.ne) e2, rr⟩, x.nLd, x.nSt, x.ne, fun p hp => ?_, fun p hp => ?_⟩
  · obtain ⟨sl, e'⟩ := x.ss.k.up b o e nf
    exact ⟨sl, kb _ _ (s0n _ _ e) e'⟩
  · exact (x.ss.c j v q).any fun o e => ⟨o.slots, kb _ o (nl _ _ (x.ss.c j v q)) e⟩
  · rw [Array.toList_push]; exact i1.append (.cons _ _ .nil)
  · obtain ⟨e2, l, y, d⟩ := x.al p hp
    exact ⟨kb _ _ (fun q => by rw [q, e] at e2; injection e2 with e2; rw [← e2] at d; cases d) e2, l, y, d⟩
  · obtain ⟨n1, n2, zs, l, i⟩ := x.ls p hp
    exact ⟨n1, n2, zs, l.extBut k.extBut n1, i⟩
theorem pairMap {h0 : Heap} {f : List Int → List Int} : ∀ {vs ys : List Value} {M : List (List Int)}, Paired (rowAt Ld h0) vs M → Paired (fun v y => ∃ r, rowAt Ld h0 v r ∧ rowAt Ld h y (f r)) (vs.filter fun _ => true) ys → Paired (rowAt Ld h) ys (M.map f) := by
  intro vs ys M p q
  rw [List.filter_eq_self.mpr (fun _ _ => rfl)] at q
  induction p generalizing ys with
  | nil => cases q; exact .nil
  | cons a r ih =>
    cases q with
    | cons b s =>
      obtain ⟨r', h1, h2⟩ := b
      rw [a.one h1]
      exact .cons h2 (ih s)
theorem Kp.of_B {ex : List Addr} {h1 h2 h3 : Heap} (k : h1.StaysIn h2) (b : KpB ex fl h2 h3) (n : ∀ x ∈ ex, h1.get? x = none) : Kp fl h1 h3 :=
  ⟨fun c o e nf => b.keep c o (fun q => by rw [n c q] at e; cases e) nf (k c o e), fun c o e mf => b.up c o mf (k c o e)⟩
/-- a pair [lead, columns] -/
def pairAt (h : Heap) (y : Value) (q : Int × List Int) : Prop := ∃ e t d zs, y = .ref e ∧ h.IsList e #[.int q.1 t, .ref d] ∧ h.IsList d (List.toArray zs) ∧ IntsAre zs q.2
theorem pairAt.kp {y : Value} {q : Int × List Int} (x : pairAt h y q) (k : Kp fl h h') : pairAt h' y q := let ⟨e, t, d, zs, a, l, l', i⟩ := x; ⟨e, t, d, zs, a, k.isList l, k.isList l', i⟩
end
def diffL (order row : List Int) : List Int := order.filter fun k => !(row.any (· == k))
end Mine

open PySem PySem.W PySem.Spec PySem.Calls PyProof.Rows
set_option Elab.async false
set_option maxRecDepth 1000000
namespace Mine
def evalIn {α : Type} (lt : Nat → Nat → Bool) (n : Nat) : KasT α → Option α
  | .ret a => some a
  | .ask i j k => if i < n && j < n && i != j then evalIn lt n (k (lt i j)) else none
theorem evalIn_wp {α : Type} {cmp : Nat → Nat → (Bool → Shared → Prop) → Shared → Prop} {lt : Nat → Nat → Bool} {n : Nat} {s : Shared} {Q : α → Shared → Prop} (hc : ∀ i j C, i < n → j < n → i ≠ j → C (lt i j) s → cmp i j C s) :
    ∀ (t : KasT α) {a : α}, evalIn lt n t = some a → Q a s → t.kasWp cmp Q s
  | .ret b, a, e, h => by
    unfold evalIn at e
    cases e; exact h
  | .ask i j k, a, e, h => by
    unfold evalIn at e
    split at e
    · rename_i hij
      simp only [Bool.and_eq_true, decide_eq_true_eq, bne_iff_ne, ne_eq] at hij
      exact hc i j _ hij.1.1 hij.1.2 hij.2 (evalIn_wp hc (k (lt i j)) e h)
    · cases e
def ltOf (l : List Nat) (i j : Nat) : Bool := Nat.blt (l.getD i 0) (l.getD j 0)
def incr : List Nat → Bool
  | a :: b :: r => Nat.blt a b && incr (b :: r)
  | _ => true
def leafOk (l : List Nat) (p : Array Nat) : Bool := incr (p.toList.map fun i => l.getD i 0) && (List.range l.length).all (fun i => p.toList.contains i) && p.toList.all (fun i => i < l.length)
/-- the tree is walked once for all the lists: at a question they part by their answers -/
def okAll (n : Nat) : KasT (Array Nat) → List (List Nat) → Bool
  | .ret p, ls => ls.all fun l => leafOk l p
  | .ask i j k, ls => ls.isEmpty || (i < n && j < n && i != j && okAll n (k true) (ls.filter fun l => ltOf l i j) && okAll n (k false) (ls.filter fun l => !ltOf l i j))
theorem okAll_leaf {n : Nat} {l : List Nat} : ∀ (t : KasT (Array Nat)) (ls : List (List Nat)), okAll n t ls = true → l ∈ ls → ∃ p, evalIn (ltOf l) n t = some p ∧ leafOk l p = true
  | .ret p, ls, h, hl => ⟨p, rfl, List.all_eq_true.mp h l hl⟩
  | .ask i j k, ls, h, hl => by
    unfold okAll at h
    have ne : ls.isEmpty = false := by cases ls with
      | nil => cases hl
      | cons _ _ => rfl
    rw [ne, Bool.false_or] at h
    simp only [Bool.and_eq_true] at h
    obtain ⟨⟨hij, ht⟩, hf⟩ := h
    have c : (i < n && j < n && i != j) = true := by simp only [Bool.and_eq_true]; exact hij
    cases q : ltOf l i j with
    | true =>
      obtain ⟨p, e, o⟩ := okAll_leaf (k true) _ ht (List.mem_filter.mpr ⟨hl, q⟩)
      exact ⟨p, by unfold evalIn; rw [if_pos c, q]; exact e, o⟩
    | false =>
      obtain ⟨p, e, o⟩ := okAll_leaf (k false) _ hf (List.mem_filter.mpr ⟨hl, by rw [q]; rfl⟩)
      exact ⟨p, by unfold evalIn; rw [if_pos c, q]; exact e, o⟩
def okSort (l : List Nat) : Bool := match evalIn (ltOf l) l.length (kas_sort l.length) with
  | some p => leafOk l p
  | none => false
theorem okAll_sort {n : Nat} {ls : List (List Nat)} (h : okAll n (kas_sort n) ls = true) {l : List Nat} (hl : l ∈ ls) (e : l.length = n) : okSort l = true := by
  subst e
  obtain ⟨p, e, o⟩ := okAll_leaf _ _ h hl
  unfold okSort
  rw [e]
  exact o
def exts (ls : List (List Nat)) : List (List Nat) := ls.flatMap fun l => ((List.range 6).filter fun a => !(l.contains a)).map fun a => a :: l
def lists2 : List (List Nat) := exts (exts [[]])
def lists3 := exts lists2
def lists4 := exts lists3
def lists5 := exts lists4
def lists6 := exts lists5
theorem al2 : okAll 2 (kas_sort 2) lists2 = true := by decide +kernel
theorem al3 : okAll 3 (kas_sort 3) lists3 = true := by decide +kernel
theorem al4 : okAll 4 (kas_sort 4) lists4 = true := by decide +kernel
theorem al5 : okAll 5 (kas_sort 5) lists5 = true := by decide +kernel
theorem al6 : okAll 6 (kas_sort 6) lists6 = true := by decide +kernel
end Mine

open PySem PySem.W PySem.Spec PySem.Calls PyProof.Rows
set_option Elab.async false
set_option maxRecDepth 100000
set_option maxHeartbeats 8000000
namespace Mine
section
open PySem.SeqAt PySem.AutoSeq1 PySem.MeetsSeq PySem.MeetsSeq2 PySem.MeetsSeq3 PySem.SeqRoads2
theorem list_lt_first (l b : Addr) (items items2 : Array Value) (n n2 : Nat) (dd dd2 : Option Addr) (sl sl2 : Array (Option Value)) (x y : Int) (t u : Tok) (hx : items[0]? = some (.int x t)) (hy : items2[0]? = some (.int y u)) (hne : x ≠ y) :
    Meets (Builtin.«list.__lt__» ⟨[.ref l, .ref b], []⟩)
      (fun A R s => s.heap.get? l = some { cls := .type "list", dict := dd, data := .seq items n, slots := sl } ∧ s.heap.get? b = some { cls := .type "list", dict := dd2, data := .seq items2 n2, slots := sl2 } ∧
        R (.ok (.ret (.bool (decide (x < y))))) s) := by
  intro prog w A R s h
  obtain ⟨hp, g, d, tk, os⟩ := s; obtain ⟨hl, hb, h⟩ := h
  have f3 := AutoSeq1.sub_list_list
  wp_walk using wpAny_loadPart' hl, wpAny_loadPart' hb
  exact ⟨plainId_quiet plain_eq_loop _, codeAny_builtin entry_eq_loop (by
    rw [Around.under_plainId plain_eq_loop _]
    show wpAny (model prog w) A.in1 (Builtin.«list.__eq__.loop» ⟨[Value.ref l, Value.ref b, rawInt 0, rawInt 0], []⟩) _ _ _
    wp_walk using wpAny_loadPart' hl, wpAny_loadPart' hb
    rw [show items[Int.toNat 0]? = some (.int x t) from hx, show items2[Int.toNat 0]? = some (.int y u) from hy]
    dsimp only
    refine wpAny_bind (wpAny_eqBool_int ?_)
    rw [show (x == y) = false from beq_false_of_ne hne]
    wp_walk using wpAny_loadPart' hl, wpAny_loadPart' hb
    rw [show items[Int.toNat 0]? = some (.int x t) from hx, show items2[Int.toNat 0]? = some (.int y u) from hy]
    dsimp only
    refine wpAny_bind (wpAny_lt_int ?_)
    exact wpAny_pure h)⟩
theorem oneLt_lists {prog : Program} {w : World} {A : Around} {E : Value → Shared → Prop} {s : Shared} {l b : Addr} {items items2 : Array Value} {x y : Int} {t u : Tok} {Q : Bool → Shared → Prop} (hl : s.heap.IsList l items) (hb : s.heap.IsList b items2)
    (hx : items[0]? = some (.int x t)) (hy : items2[0]? = some (.int y u)) (hne : x ≠ y) (hu : A.units < cLine) (h : Q (decide (x < y)) s) : wpAny (model prog w) A (keyLt' oneType' (.ref l) (.ref b)) Q E s := by
  obtain ⟨⟨cls, dd, data, sl⟩, ho, hc, n, hd⟩ := id hl
  obtain ⟨⟨cls2, dd2, data2, sl2⟩, ho2, hc2, n2, hd2⟩ := id hb
  simp only at hc hd hc2 hd2
  subst hc hd hc2 hd2
  rw [keyLt'_oneType, oneLt'_eq]
  simp only [if_true]
  refine wpAny_bind (wpAny_cRoomFor hu ?_)
  refine wpAny_bind (wpAny_callSpecialIfBound?_slot ⟨_, ho, rfl⟩ F.slot_list_lt (call_meets F.slot_list_lt ⟨_, ho, rfl⟩ F.entry_list_lt (F.args_list_lt_2 _ _) (list_lt_first l b items items2 n n2 dd dd2 sl sl2 x y t u hx hy hne) ⟨ho, ho2, ?_⟩))
  exact wpAny_truthy_bool h
end

theorem mem_exts {ls : List (List Nat)} {l : List Nat} {a : Nat} (hl : l ∈ ls) (ha : a < 6) (hn : a ∉ l) : (a :: l) ∈ exts ls := by
  unfold exts
  refine List.mem_flatMap.mpr ⟨l, hl, List.mem_map.mpr ⟨a, List.mem_filter.mpr ⟨List.mem_range.mpr ha, ?_⟩, rfl⟩⟩
  simp [hn]
def lev : Nat → List (List Nat)
  | 0 => [[]]
  | k + 1 => exts (lev k)
theorem mem_lev : ∀ (l : List Nat), l.Nodup → (∀ a ∈ l, a < 6) → l ∈ lev l.length
  | [], _, _ => .head _
  | a :: l, h, h6 => by
    obtain ⟨h1, h2⟩ := List.nodup_cons.mp h
    exact mem_exts (mem_lev l h2 fun b hb => h6 b (.tail _ hb)) (h6 a (.head _)) h1
theorem okSort_of {xs : List Int} (g : Good xs) (h2 : 2 ≤ xs.length) : okSort (xs.map Int.toNat) = true := by
  have hm := mem_lev (xs.map Int.toNat) (by
    refine List.pairwise_map.mpr (g.1.imp_of_mem fun {a b} ha hb ne q => ne ?_)
    have := g.2 a ha; have := g.2 b hb; omega) (fun a ha => by
    obtain ⟨c, hc, rfl⟩ := List.mem_map.mp ha
    have := g.2 c hc; omega)
  have h6 := g.len
  rw [List.length_map] at hm
  have key : ∀ (k : Nat), xs.length = k → k = 2 ∨ k = 3 ∨ k = 4 ∨ k = 5 ∨ k = 6 := fun k e => by omega
  rcases key _ rfl with q | q | q | q | q <;> rw [q] at hm
  · exact okAll_sort al2 hm (by rw [List.length_map]; exact q)
  · exact okAll_sort al3 hm (by rw [List.length_map]; exact q)
  · exact okAll_sort al4 hm (by rw [List.length_map]; exact q)
  · exact okAll_sort al5 hm (by rw [List.length_map]; exact q)
  · exact okAll_sort al6 hm (by rw [List.length_map]; exact q)
theorem incr_pairwise : ∀ {l : List Nat}, incr l = true → l.Pairwise (· < ·)
  | [], _ => .nil
  | [a], _ => List.pairwise_singleton _ _
  | a :: b :: r, h => by
    have h' : (Nat.blt a b && incr (b :: r)) = true := h
    rw [Bool.and_eq_true] at h'
    have ih := incr_pairwise h'.2
    have hab : a < b := Nat.blt_eq ▸ h'.1
    refine List.pairwise_cons.mpr ⟨fun c hc => ?_, ih⟩
    rcases List.mem_cons.mp hc with rfl | hc
    · exact hab
    · exact Nat.lt_trans hab ((List.pairwise_cons.mp ih).1 c hc)

section
variable {prog : Program} {w : World} {A : Around} {E : Value → Shared → Prop} {s : Shared} {h₀ : Heap} {L : Addr} {m : Str → Option Value} {news : List (Addr × Obj)} {vs : List Value}
theorem sorted_pairs {l : Addr} {xs : List Int} {Q : Value → Shared → Prop} (hu : A.units < 9000) (F : Fr h₀ L s.heap m) (N : News h₀ L s.heap news) (hl : s.heap.IsList l vs.toArray) (hlen : vs.length = xs.length) (h2 : 2 ≤ xs.length) (g : Good xs)
    (hT : ∀ h, Fr h₀ L h m → News h₀ L h news → ∀ i (hi : i < xs.length), ∃ e t d, vs.getD i Value.none = .ref e ∧ h.IsList e #[.int xs[i] t, .ref d])
    (h : ∀ D (p : List Nat) h', Fr h₀ L h' m → News h₀ L h' news → (∀ q ∈ news, q.1 < D) → h₀.get? D = none → D ≠ L → (∀ i ∈ p, i < xs.length) → (∀ i, i < xs.length → i ∈ p) → (p.map fun i => xs.getD i 0).Pairwise (· < ·) →
      h'.IsList D (p.map fun i => vs.getD i Value.none).toArray → Q (.ref D) { s with heap := h' }) :
    wpAny (model prog w) A (call (.builtin "sorted") [.ref l]) Q E s := by
  have h6 := g.len
  refine kas_sorted (T := .type "list") F N hl (by omega) (by omega) (fun h F' N' v hv => ?_) (by decide) fun D e1 h' F' N' hlt => ?_
  · obtain ⟨i, hi, rfl⟩ := List.getElem_of_mem hv
    obtain ⟨e, t, d, q, hls⟩ := hT h F' N' i (by omega)
    rw [List.getD_eq_getElem?_getD, List.getElem?_eq_getElem hi] at q
    have q' : vs[i] = .ref e := q
    rw [q']
    obtain ⟨o, ho, hc, _⟩ := hls
    intro A Q E s k hq
    exact wpAny_typeOf_ref (k _ _ ho) (hc ▸ hq)
  · have N0 : News h₀ L h' news := fun p hp => N' p (.tail _ hp)
    have hD := N' _ (.head _)
    have ok := okSort_of g h2
    unfold okSort leafOk at ok
    rw [List.length_map, ← hlen] at ok
    split at ok
    · rename_i p hp
      simp only [Bool.and_eq_true, List.all_eq_true, List.mem_range, List.contains_iff_mem, decide_eq_true_eq] at ok
      obtain ⟨⟨hi, hall⟩, hin⟩ := ok
      have hx : ∀ i, (xs.map Int.toNat).getD i 0 = (xs.getD i 0).toNat := fun i => by
        rw [List.getD_eq_getElem?_getD, List.getD_eq_getElem?_getD, List.getElem?_map]
        cases xs[i]? <;> rfl
      have g0 : ∀ i, 0 ≤ xs.getD i 0 := fun i => by
        rw [List.getD_eq_getElem?_getD]
        cases q : xs[i]? with
        | none => exact Int.le_refl _
        | some x => exact (g.2 x (List.mem_of_getElem? q)).1
      refine evalIn_wp (fun i j C hi hj hij hC => ?_) _ hp ?_
      · rw [hlen] at hi hj
        obtain ⟨e, t, d, q, hls⟩ := hT h' F' N0 i hi
        obtain ⟨e', t', d', q', hls'⟩ := hT h' F' N0 j hj
        unfold kas_ask
        rw [q, q']
        have hlt : ltOf (xs.map Int.toNat) i j = decide (xs[i] < xs[j]) := by
          unfold ltOf
          rw [hx, hx]
          have a1 := g0 i; have a2 := g0 j
          rw [List.getD_eq_getElem?_getD, List.getElem?_eq_getElem hi] at a1 ⊢
          rw [List.getD_eq_getElem?_getD, List.getElem?_eq_getElem hj] at a2 ⊢
          have a1' : 0 ≤ xs[i] := a1
          have a2' : 0 ≤ xs[j] := a2
          show Nat.blt xs[i].toNat xs[j].toNat = _
          rw [Bool.eq_iff_iff, Nat.blt_eq, decide_eq_true_eq]
          omega
        rw [hlt] at hC
        have hne : xs[i] ≠ xs[j] := fun q => by
          have pw := List.pairwise_iff_getElem.mp g.1
          rcases Nat.lt_or_gt_of_ne hij with z | z
          · exact pw i j hi hj z q
          · exact pw j i hj hi z q.symm
        exact oneLt_lists hls hls' rfl rfl hne (by show A.units + 1 + 1 < 9900; omega) hC
      · refine ⟨_, _, F', N', UpdF.head (fun q hq => Nat.ne_of_lt (hlt q hq)), fun h'' c F'' N'' => ?_⟩
        refine h D p.toList h'' F'' (fun q hq => N'' q (.tail _ hq)) hlt hD.2.2 hD.2.1 (fun i hi => by have := hin i hi; omega) (fun i hi => hall i (by omega)) ?_ ⟨_, (N'' _ (.head _)).1, rfl, _, rfl⟩
        have pw := incr_pairwise hi
        rw [List.pairwise_map] at pw ⊢
        refine pw.imp fun {a b} z => ?_
        rw [hx, hx] at z
        have := g0 a; have := g0 b
        omega
    · cases ok
end
end Mine

open PySem PySem.W PySem.Spec PySem.Calls PyProof.Rows
set_option Elab.async false
set_option maxRecDepth 100000
set_option maxHeartbeats 8000000
namespace Mine
example : PySem.Challenge.rw_in0205_01 = PySem.Challenge.rw_in0205_01 ∧ hd.heap_39 = hd.heap_39 := by k_fill; exact ⟨rfl, rfl⟩
local macro_rules | `(tactic| walk_at "exec Assign cons ListComp") => `(tactic| refine Stop.go ?_)
local macro_rules | `(tactic| walk_at "eval ListComp") => `(tactic| refine Stop.go ?_)
local macro_rules | `(tactic| walk_at "exec For") => `(tactic| refine Stop.go ?_)
local macro_rules | `(tactic| walk_at "eval List") => `(tactic| refine List_ ?_)
local macro_rules | `(tactic| walk_at "eval Call") => `(tactic| ((with_reducible show wpAny _ _ (eval (Expr.Call (Expr.Name (Str.ofString "list") _) _ _ _) _) _ _ _); refine Stop.go ?_))
local macro_rules | `(tactic| walk_at "eval Call") => `(tactic| ((with_reducible show wpAny _ _ (eval (Expr.Call (Expr.Name (Str.ofString "_difference") _) _ _ _) _) _ _ _); refine Stop.go ?_))
local macro_rules | `(tactic| walk_at "eval Name") => `(tactic| ((with_reducible show wpAny _ _ (eval (Expr.Name (Str.ofString "list") _) _) _ _ _); refine Stop.go ?_))
local macro_rules | `(tactic| walk_at "exec For Name Name cons nil") => `(tactic| refine Stop.go ?_)
local macro_rules | `(tactic| walk_at "exec For Name Call cons nil") => `(tactic| refine Stop.go ?_)
local macro_rules | `(tactic| walk_at "storeName") => `(tactic| refine Stop.go ?_)
local macro_rules | `(tactic| walk_at "call ref") => `(tactic| refine Stop.go ?_)
local macro_rules | `(tactic| walk_at "call builtin:len") => `(tactic| refine Stop.go ?_)
local macro_rules | `(tactic| walk_at "subscriptTail") => `(tactic| refine Stop.go ?_)
local macro_rules | `(tactic| walk_at "compareOp In int ref") => `(tactic| refine Stop.go ?_)
local macro_rules | `(tactic| walk_at "compareOp NotEq ref ref") => `(tactic| refine Stop.go ?_)
local macro_rules | `(tactic| walk_at "call builtin:max") => `(tactic| refine Stop.go ?_)
local macro_rules | `(tactic| walk_at "call builtin:list.append") => `(tactic| refine Stop.go ?_)
local macro_rules | `(tactic| walk_at "getMethod ref") => `(tactic| refine Stop.go ?_)
local macro_rules | `(tactic| walk_at "call builtin:sorted") => `(tactic| refine Stop.go ?_)

theorem nmB {M : Model} {A : Around} {E : Value → Shared → Prop} {s : Shared} {K : Frag} {base : Heap} {L : Addr} {m mg mb : Str → Option Value} {p : Program} {loose : List Str} {x : Str} {pos : Pos} {v : Value} {Q : Value → Shared → Prop} {env : Env}
    (F : Fr base L s.heap m) (X : K.In base) (T : TopRead p loose mg mb base) (e : nsIn K mainGlobals x = some none) (hv : bootBuiltins x = some v) (hn : x ≠ "__name__") (h : Q v s)
    (hg : env.globals = mainGlobals) (hb : env.builtins = builtinsNs) (hk : env.scope.kind = .function) (hx : env.kindOf x = some .globalImplicit) (hd : (x == ("__debug__" : Str)) = false) :
    wpAny M A (eval (.Name x pos) env) Q E s :=
  Name_function_global hk hx (loadGlobal_builtin (env := env) (by rw [hg]; exact T.g.keeps F.keep) (mg_none_of X T.g e) (by rw [hb]; exact T.b.keeps F.keep) ((T.builtins x hn).trans hv) h) hd
section
variable {prog : Program} {w : World} {A : Around} {E : Value → Shared → Prop} {s : Shared}
theorem ne_nil {l e : Addr} {zs : List Value} {ns : List Int} {Q : Value → Shared → Prop} (hl : s.heap.IsList l zs.toArray) (he : s.heap.IsList e #[]) (hi : IntsAre zs ns) (hu : A.units < 9500) (h : Q (.bool (decide (ns ≠ []))) s) :
    wpAny (model prog w) A (compareOp .NotEq (.ref l) (.ref e)) Q E s := by
  have hu' : A.units < cLine := Nat.lt_of_lt_of_le hu (by show 9500 ≤ 9900; decide)
  cases hi with
  | nil => exact PySem.SeqAt.RcNeAt.lists (e := fun _ => true) hl he rfl hu' (fun j h1 => absurd h1 (by simp)) prog w E Q h
  | cons n t r => exact PySem.SeqAt.RcNeAt.lists_lengths hl he (by simp) hu' prog w E Q h
end
theorem isList_one {h : Heap} {a : Addr} {xs ys : Array Value} (x : h.IsList a xs) (y : h.IsList a ys) : xs = ys := by
  obtain ⟨o, e, _, n, d⟩ := x
  obtain ⟨o', e', _, n', d'⟩ := y
  rw [e] at e'; cases e'; rw [d] at d'; cases d'; rfl
theorem paired_get {α β : Type} {F : α → β → Prop} : ∀ {l₁ : List α} {l₂ : List β}, Paired F l₁ l₂ → ∀ (i : Nat) (a : α), l₁[i]? = some a → ∃ b, l₂[i]? = some b ∧ F a b
  | _, _, .nil, i, a, h => by simp at h
  | _, _, .cons f r, 0, a, h => by simp at h; subst h; exact ⟨_, rfl, f⟩
  | _, _, .cons f r, i + 1, a, h => by simpa using paired_get r i a (by simpa using h)
theorem Rest.nil {L : Addr} {h h' : Heap} (r : Rest L [] h h') {a : Addr} {o : Obj} (e : h.get? a = some o) (n : a ≠ L) : h'.get? a = some o := r a o e n (fun q => nomatch q)
theorem Cell.is {h : Heap} {c : Addr} {v : Option Value} (x : Cell h c v) : h.IsCell c v := x

theorem stand_spec {w : World} {mg mb : Str → Option Value} {A : Around} {fl : List Env} {s : Shared} {Q E : Value → Shared → Prop} {a b : Addr} {vs ws : List Value} {order : List Int} {rows : List (List Int)}
   (G : Ok w mg mb fl s.heap) (hA : A.frames = some fl) (hroom : A.depth < 870) (hu : A.units < 8900) (hh : A.handled = none)
   (ha : s.heap.IsList a vs.toArray) (hrows : Paired (fun v r => ∃ a zs, v = Value.ref a ∧ s.heap.IsList a (List.toArray zs) ∧ IntsAre zs r) vs rows) (hgood : ∀ r ∈ rows, Good r) (hn : rows.length ≤ 26) (hb : s.heap.IsList b ws.toArray) (hord : IntsAre ws order) (hordl : order.length ≤ 64) 
   (hg : Good (standL rows).1) (h2 : 2 ≤ (standL rows).1.length)
   (hQ : ∀ h' tk D ys prs, Kp fl s.heap h' → s.heap.get? D = none → h'.IsList D (List.toArray ys) → Paired (pairAt h') ys prs → (prs.map (·.1)).Pairwise (· < ·) →
      (∀ q, q ∈ prs ↔ ∃ k, k < (standL rows).1.length ∧ q = ((standL rows).1.getD k 0, diffL order ((standL rows).2.getD k []))) → Q (.ref D) { s with heap := h', toks := tk }) :
   wpAny (model P0 w) A (call (.ref 75) [.ref a, .ref b]) Q E s := by
  have ⟨⟨KX, T⟩, hf⟩ := G
  refine wpAny_call (enterC (base := gnd fl s.heap) (binds := [(Str.ofString "rows", .ref a), (Str.ofString "order", .ref b)]) (fun b o e => gnd_of e) T.nolimit (KX 75 _ rfl) rfl (codeRec_of KX (by rfl)) (by show A.depth < 1000; omega) (Nat.le_of_eq (hideAll_size _ _)) (BindsTo.of_eq rfl) (kindsX rfl) (by decide) (fun L h₁ tk cells eL F N Y hfr hk => ?_))
  clear KX T
  have ssk : ∀ m, h₁.Ns L m → SS fl s.heap L h₁ m [some (.ref b), none, none, none, none] := by
    refine fun m ns => ⟨.of_stays hk, ns, ?_⟩
    cases Y with | cons d1 Y => cases Y with | cons d2 Y => cases Y with | cons d3 Y => cases Y with | cons d4 Y => cases Y with | cons d5 Y => 
    cases Y
    intro j v e
    have hj : j < 5 := (List.getElem?_eq_some_iff.mp e).1
    match j, hj, e with
    | 4, _, e => cases e; exact ⟨_, (N _ (.head _)).1, d1⟩
    | 3, _, e => cases e; exact ⟨_, (N _ (.tail _ (.head _))).1, d2⟩
    | 2, _, e => cases e; exact ⟨_, (N _ (.tail _ (.tail _ (.head _)))).1, d3⟩
    | 1, _, e => cases e; exact ⟨_, (N _ (.tail _ (.tail _ (.tail _ (.head _))))).1, d4⟩
    | 0, _, e => cases e; exact ⟨_, (N _ (.tail _ (.tail _ (.tail _ (.tail _ (.head _)))))).1, d5⟩
  have ss := ssk _ F.ns
  have ha1 : h₁.IsList a vs.toArray := isList_any (fun b o e => ⟨o.slots, hk b o e⟩) ha
  clear F N Y hfr hk ssk
  obtain ⟨base, tail, o1, o2, o3, o4, o5, KX, T, FO, NO, d1, d2, d3, d4, d5, cov, kb⟩ := SS.open5 (ss) [] G eL (fun _ h => nomatch h)
  simp only [List.nil_append] at NO
  refine stopQ ?_
  k_steps
  rename Fr _ _ _ _ => FZ
  rename News _ _ _ _ => NZ
  obtain ⟨ss2, r2⟩ := cov _ _ _ FZ NZ (by (intro p hp; first | exact hp | exact .tail _ hp | exact .tail _ (.tail _ hp) | exact .tail _ (.tail _ (.tail _ hp)) | exact .tail _ (.tail _ (.tail _ (.tail _ hp)))))
  have ha2 := r2.isList ss.ns ha1 (fun q => nomatch q)
  have nx := (NZ _ (.head _))
  rename_i Ld _ l1
  have l5 : @LT.lt Nat _ (L + 5) Ld := l1.2.2.2.2.1
  have l1' : L < Ld := Nat.lt_trans (Nat.lt_succ_self _) l1.1
  refine Stop.mk (wpAny_storeName_cell rfl rfl rfl (ss2.c 1 _ rfl) fun h3 hc3 hs3 => ?_)
  have ss3 : SS fl s.heap L h3 _ [some (.ref b), some (.ref Ld), none, none, none] := ss2.set (i := 1) (by show 1 < 5; decide) (fun b o n e => hs3.extBut b o n e) hc3 eL
  have ld3 : h3.get? Ld = some { cls := .type "list", data := .seq (List.toArray []) 0 } := hs3.extBut _ _ (by show @Ne Nat Ld (L + 1 + 1); have := l1.2.1; omega) nx.1
  have ha3 : h3.IsList a vs.toArray := ha2.extBut hs3.extBut (fun q => by
    obtain ⟨o, e, hc, n, hd⟩ := ha2
    obtain ⟨o', e', d'⟩ := ss2.c 1 _ rfl
    rw [q, e'] at e; cases e; rw [d'] at hd; cases hd)
  clear cov KX T NZ FZ nx l1
  have nLd : s.heap.get? Ld = none := Heap.get?_none_of_le (by rw [← eL]; exact Nat.le_of_lt l1')
  obtain ⟨base, tail, o1, o2, o3, o4, o5, KX, T, FO, NO, d1, d2, d3, d4, d5, cov, kb⟩ := SS.open5 (ss3) [(Ld, ({ cls := .type "list", data := .seq (List.toArray []) 0 } : Obj))] G eL (by
    intro p hp
    cases List.mem_singleton.mp hp
    exact ⟨ld3, by show @Ne Nat Ld L; omega, nLd⟩)
  simp only [List.nil_append, List.cons_append] at NO
  refine stopQ ?_
  k_steps
  rename Fr _ _ _ _ => FZ
  rename News _ _ _ _ => NZ
  obtain ⟨ss4, r4⟩ := cov _ _ _ FZ NZ (by (intro p hp; first | exact hp | exact .tail _ hp | exact .tail _ (.tail _ hp) | exact .tail _ (.tail _ (.tail _ hp)) | exact .tail _ (.tail _ (.tail _ (.tail _ hp)))))
  have nx := (NZ _ (.head _))
  have nl := (NZ _ (.tail _ (.head _)))
  rename_i St _ l1
  have hne : Ld ≠ St := fun q => by rw [q] at l1; exact Nat.lt_irrefl _ l1.1
  have lS : @LT.lt Nat _ (L + 5) St := l1.2.2.2.2.2.1
  have nSt : s.heap.get? St = none := Heap.get?_none_of_le (by rw [← eL]; show @LE.le Nat _ L St; omega)
  refine Stop.mk (wpAny_storeName_cell rfl rfl rfl (ss4.c 2 _ rfl) fun h5 hc5 hs5 => ?_)
  have ss5 : SS fl s.heap L h5 _ [some (.ref b), some (.ref Ld), some (.ref St), none, none] := ss4.set (i := 2) (by show 2 < 5; decide) (fun b o n e => hs5.extBut b o n e) hc5 eL
  have ttk : ∀ m, SS fl s.heap L h5 m [some (.ref b), some (.ref Ld), some (.ref St), none, none] → TT fl s.heap L b Ld St h5 m none none [] [] [] [] := by
    refine fun m ss5 => ⟨ss5, ⟨#[], 0, hs5.extBut _ _ (by show @Ne Nat Ld (L + 1 + 2); omega) nl.1, .nil⟩, ⟨#[], 0, hs5.extBut _ _ (by show @Ne Nat St (L + 1 + 2); omega) nx.1, .nil⟩, nLd, nSt, hne, fun _ h => (nomatch h), fun _ h => nomatch h⟩
  have tt0 := ttk _ ss5
  clear ttk cov KX T NZ FZ nx l1 nl ss5 hc5 hs5 ss4 r4 ss3 ld3 ha3 hc3 hs3 ss2 r2 ha2 ss ha1
  obtain ⟨base, tail, o1, o2, o3, o4, o5, KX, T, FO, NO, d1, d2, d3, d4, d5, cov, kb⟩ := SS.open5 (tt0.ss) [] G eL (fun _ h => nomatch h)
  simp only [List.nil_append] at NO
  refine stopQ ?_
  k_steps
  refine Stop.mk (wpAny_For (stopQ ?_))
  k_steps
  refine Stop.mk ?_
  have hvl : vs.length = rows.length := hrows.length
  have hI0 : @LT.lt Nat _ (L + 5) h5.objs.size := tt0.room
  refine for_src (Src.list (its := vs) (tt0.ss.k.isList ha) (by omega)) hh
    (fun i h => ∃ St m vl vd p, p = standL (rows.take i) ∧ TT fl s.heap L b Ld St h m vl vd p.1 p.2 [] []) _ rfl
    (fun oI => ⟨St, _, _, _, _, rfl, tt0.mv (tt0.ss.stays fun b o e => Heap.get?_push_of_some _ e) (.stays fun b o e => Heap.get?_push_of_some _ e)⟩)
    ?_ ?_ ?_ ?_
  · rintro i h h' o ⟨St, m, vl, vd, p, hp, tt⟩ e d k
    exact ⟨St, m, vl, vd, p, hp, tt.iter k e d hI0 (fun _ h => nomatch h) eL⟩
  · rintro ax its q l i h ⟨St, m, vl, vd, p, hp, tt⟩
    cases q
    rw [isList_one l (tt0.ss.k.isList ha)]
    exact tt.ss.k.isList ha
  · rintro i v h tk oI hi hv ⟨St, m, vl, vd, p, hp, tt⟩ eI dI
    obtain ⟨r, hr, lf, zs, rfl, hlf, hzs⟩ := paired_get hrows i v hv
    have gr : Good r := hgood r (List.mem_of_getElem? hr)
    generalize hII : h5.objs.size = I at *
    have tt1 := tt.also (I := I) eI dI hI0
    clear KX T FO NO cov
    refine wpAny_assign_Name (wpAny_storeName_local rfl tt1.ss.ns (fun h2 hn2 hs2 => ?_) rfl)
    have tt2 := tt1.frame hs2 hn2 eL
    clear tt tt1 hn2 hs2
    obtain ⟨base, tail, o1, o2, o3, o4, o5, KX, T, FO, NO, d1, d2, d3, d4, d5, cov, kb⟩ := SS.open5 (tt2.ss) [] G eL (fun _ h => nomatch h)
    simp only [List.nil_append] at NO
    refine stopQ ?_
    k_steps
    rename Fr _ _ _ _ => FZ
    rename News _ _ _ _ => NZ
    obtain ⟨ss3, r3⟩ := cov _ _ _ FZ NZ (by (intro p hp; first | exact hp | exact .tail _ hp | exact .tail _ (.tail _ hp) | exact .tail _ (.tail _ (.tail _ hp)) | exact .tail _ (.tail _ (.tail _ (.tail _ hp)))))
    have tt3 := tt2.rest ss3 r3
    have nlf : lf ≠ Ld ∧ lf ≠ St := by
      obtain ⟨o, e, _⟩ := hlf
      exact ⟨fun q => (by rw [q, tt3.nLd] at e; cases e), fun q => (by rw [q, tt3.nSt] at e; cases e)⟩
    refine Stop.mk (wpAny_storeName_cell rfl rfl rfl (tt3.ss.c 3 _ rfl) fun h4 hc4 hs4 => ?_)
    have tt4 := tt3.left (fun b o n e => hs4.extBut b o n e) hc4 eL
    replace tt4 := tt4.list nlf.1 nlf.2 (tt4.ss.k.isList hlf) hzs
    clear cov KX T NZ FZ hs4 hc4 tt3 ss3 r3 tt2
    obtain ⟨base, tail, o1, o2, o3, o4, o5, KX, T, FO, NO, d1, d2, d3, d4, d5, cov, kb⟩ := SS.open5 (tt4.ss) [] G eL (fun _ h => nomatch h)
    simp only [List.nil_append] at NO
    k_steps
    refine Stop.mk (wpAny_For (stopQ ?_))
    k_steps
    obtain ⟨lvs, nn, eLd, iLd⟩ := tt4.ld
    have hlen := iLd.length
    rw [Array.length_toList] at hlen
    have hple : p.1.length ≤ 26 := by
      have := standL_le (rows.take i)
      rw [← hp, List.length_take] at this; omega
    have hgM : ∀ r ∈ p.2, Good r := by rw [hp]; exact standL_good fun r hr => hgood r (List.mem_of_mem_take hr)
    have hML : p.1.length = p.2.length := by rw [hp]; exact standL_len _
    refine Stop.mk (len_list ⟨_, eLd, rfl, _, rfl⟩ (by omega) ?_)
    k_steps
    rename Fr _ _ _ _ => FZ
    rename News _ _ _ _ => NZ
    obtain ⟨ss5, r5⟩ := cov _ _ _ FZ NZ (by (intro p hp; first | exact hp | exact .tail _ hp | exact .tail _ (.tail _ hp) | exact .tail _ (.tail _ (.tail _ hp)) | exact .tail _ (.tail _ (.tail _ (.tail _ hp)))))
    have tt5 := tt4.rest ss5 r5
    rename_i h6 _ _ _ _ rg _
    have hI6 : @LT.lt Nat _ I h6.objs.size := Heap.lt_size (tt5.al _ (.head _)).1
    refine Stop.mk ?_
    dsimp only at rg ⊢
    clear cov KX T NZ FZ ss5 r5 tt4
    refine for_src (Src.range (n := lvs.size) rg (by omega)) hh
      (fun k h => ∃ m lf, TT fl s.heap L b Ld St h m (some (.ref lf)) vd p.1 p.2 [(I, oI)] [(lf, redK p.1 p.2 r k)]) _ rfl
      (fun oI => ⟨_, _, tt5.mv (tt5.ss.stays fun b o e => Heap.get?_push_of_some _ e) (.stays fun b o e => Heap.get?_push_of_some _ e)⟩)
      ?_ ?_ ?_ ?_
    · rintro k h h' o ⟨m, lf, tt⟩ e d kk
      exact ⟨m, lf, tt.iter kk e d (Nat.lt_trans hI0 hI6) (fun q hq => by rw [List.mem_singleton.mp hq]; exact Nat.ne_of_lt hI6) eL⟩
    · intro ax its q l
      exfalso
      cases q
      obtain ⟨o, e, hc, _⟩ := l
      have rg' : h6.get? h4.objs.size = some _ := rg
      rw [rg'] at e; cases e; exact absurd hc (by show Value.type "range" ≠ Value.type "list"; decide)
    · rintro k v h tk oI2 hk ⟨_, tk0, rfl⟩ ⟨m, lf, tt⟩ eI2 dI2
      generalize hII2 : h6.objs.size = I2 at *
      have tt1 := tt.also (I := I2) eI2 dI2 (Nat.lt_trans hI0 hI6)
      refine wpAny_assign_Name (wpAny_storeName_local rfl tt1.ss.ns (fun h2 hn2 hs2 => ?_) rfl)
      have tt2 := tt1.frame hs2 hn2 eL
      clear tt tt1 hn2 hs2
      obtain ⟨base, tail, o1, o2, o3, o4, o5, KX, T, FO, NO, d1, d2, d3, d4, d5, cov, kb⟩ := SS.open5 (tt2.ss) [] G eL (fun _ h => nomatch h)
      simp only [List.nil_append] at NO
      refine stopQ ?_
      k_steps
      obtain ⟨lvs2, n2, eLd2, iLd2⟩ := tt2.ld
      have hlen2 := iLd2.length
      rw [Array.length_toList] at hlen2
      have hk' : k < p.1.length := by omega
      obtain ⟨tL, hxL⟩ := intsAre_at iLd2 k hk'
      refine Stop.mk (item_list (x := .int p.1[k] tL) ⟨_, eLd2, rfl, _, rfl⟩ (by omega) (by omega) (by simpa using hxL) ?_)
      k_steps
      obtain ⟨q1, q2, zs2, hl2, hz2⟩ := tt2.ls _ (.head _)
      refine Stop.mk (in_list_ints hl2 hz2 ?_)
      k_steps
      · rename_i hin
        obtain ⟨rfs, n3, eSt2, iSt2⟩ := tt2.st
        have hrl : rfs.toList.length = p.2.length := iSt2.length
        have hkr : k < rfs.toList.length := by omega
        obtain ⟨old, hold, la, zsa, hv2, nla, hla, hza⟩ := paired_get iSt2 k _ (List.getElem?_eq_getElem hkr)
        have hla' : h2.IsList la zsa.toArray := let ⟨o, e, r⟩ := hla; ⟨o, of_hideAll _ e, r⟩
        have gold : Good old := hgM old (List.mem_of_getElem? hold)
        have gleft : Good (redK p.1 p.2 r k) := redK_good gr hgM k
        refine Stop.mk (item_list (x := .ref la) ⟨_, eSt2, rfl, _, rfl⟩ (by omega) (by omega) (by
          rw [← hv2, ← Array.getElem?_toList]; exact List.getElem?_eq_getElem hkr) ?_)
        k_steps
        refine Stop.mk (both_spec (mg := mg) (mb := mb) (tt2.ss.ok G (by show ScopeKind.function ≠ ScopeKind.module; decide) rfl eL) (Around.frames_deeper hA) (by show A.depth + 1 < 880; omega) hh hl2 hz2 hla' hza
          (by have := gleft.len; show (redK p.1 p.2 r k).length ≤ 64; omega) (by have := gold.len; omega) fun h7 tk7 D zs7 k7 nD hD hz7 => ?_)
        have tt7 := tt2.kp G k7 (by show ScopeKind.function ≠ ScopeKind.module; decide) rfl eL
        refine Stop.mk (wpAny_storeName_cell rfl rfl rfl (tt7.ss.c 3 _ rfl) fun h8 hc8 hs8 => ?_)
        have tt8 := tt7.left (fun b o n e => hs8.extBut b o n e) hc8 eL
        have nDL : D ≠ Ld ∧ D ≠ St := ⟨fun q => (by rw [q, eLd2] at nD; cases nD), fun q => (by rw [q, eSt2] at nD; cases nD)⟩
        replace tt8 := tt8.list nDL.1 nDL.2 (hD.extBut hs8.extBut (fun q => by
          obtain ⟨o, e, _⟩ := tt2.ss.c 3 _ rfl
          have q' : D = L + 1 + 3 := q
          rw [← q', nD] at e; cases e)) hz7
        k_steps
        refine Stop.mk ⟨.inl rfl, h8, _, rfl, ⟨_, D, tt8.less (fun q hq => .tail _ hq) (fun q hq => ?_)⟩, (tt8.al _ (.head _)).1⟩
        rw [List.mem_singleton.mp hq]
        have e1 : p.1.getD k 0 = p.1[k] := by rw [List.getD_eq_getElem?_getD, List.getElem?_eq_getElem hk']; rfl
        have e2 : p.2.getD k [] = old := by rw [List.getD_eq_getElem?_getD, hold]; rfl
        have : redK p.1 p.2 r (k + 1) = bothL (redK p.1 p.2 r k) old := by
          show (if (redK p.1 p.2 r k).any (· == p.1.getD k 0) then bothL (redK p.1 p.2 r k) (p.2.getD k []) else redK p.1 p.2 r k) = _
          rw [e1, e2, if_pos hin]
        rw [this]
        exact .head _
      · rename_i hin
        refine Stop.mk ⟨.inl rfl, h2, _, rfl, ⟨_, lf, tt2.less (fun q hq => .tail _ hq) (fun q hq => ?_)⟩, (tt2.al _ (.head _)).1⟩
        rw [List.mem_singleton.mp hq]
        have e1 : p.1.getD k 0 = p.1[k] := by rw [List.getD_eq_getElem?_getD, List.getElem?_eq_getElem hk']; rfl
        have : redK p.1 p.2 r (k + 1) = redK p.1 p.2 r k := by
          show (if (redK p.1 p.2 r k).any (· == p.1.getD k 0) then bothL (redK p.1 p.2 r k) (p.2.getD k []) else redK p.1 p.2 r k) = _
          rw [e1, if_neg (by rw [hin]; decide)]
        rw [this]
        exact .head _
    · rintro h tk ⟨m, lf, tt⟩
      dsimp only
      generalize hleft : redK p.1 p.2 r lvs.size = left at tt
      have gleft : Good left := hleft ▸ redK_good gr hgM _
      obtain ⟨base, tail, o1, o2, o3, o4, o5, KX, T, FO, NO, d1, d2, d3, d4, d5, cov, kb⟩ := SS.open5 (tt.ss) [] G eL (fun _ h => nomatch h)
      simp only [List.nil_append] at NO
      k_steps
      rename Fr _ _ _ _ => FZ
      rename News _ _ _ _ => NZ
      obtain ⟨ss6, r6⟩ := cov _ _ _ FZ NZ (by (intro p hp; first | exact hp | exact .tail _ hp | exact .tail _ (.tail _ hp) | exact .tail _ (.tail _ (.tail _ hp)) | exact .tail _ (.tail _ (.tail _ (.tail _ hp)))))
      have tt6 := tt.rest ss6 r6
      obtain ⟨q1, q2, zs6, hl6, hz6⟩ := tt6.ls _ (.head _)
      refine Stop.mk (ne_nil hl6 ⟨_, (NZ _ (.head _)).1, rfl, _, rfl⟩ hz6 (by show A.units + 3 < 9500; omega) ?_)
      k_steps
      · rename_i hne6
        have tt60 := tt6
        refine Stop.mk (max_list_N hh FZ NZ hl6 hz6 (by cases left with | nil => exact absurd rfl hne6 | cons _ _ => exact Nat.succ_pos _) fun h7 mx t7 tk7 F7 N7 hmx hle => ?_)
        have hmax : mx = maxL left := maxL_of gleft hmx hle
        obtain ⟨ss7, r7⟩ := cov _ _ _ F7 N7 (by (intro p hp; first | exact hp | exact .tail _ hp | exact .tail _ (.tail _ hp) | exact .tail _ (.tail _ (.tail _ hp)) | exact .tail _ (.tail _ (.tail _ (.tail _ hp)))))
        have tt7 := tt.rest ss7 r7
        refine Stop.mk (wpAny_storeName_cell rfl rfl rfl (tt7.ss.c 4 _ rfl) fun h8 hc8 hs8 => ?_)
        have tt8 := tt7.lead (fun b o n e => hs8.extBut b o n e) hc8 eL
        clear tt7 tt6 tt60 hc8 hs8 F7 N7 FZ NZ cov ss6 r6 ss7 r7 hl6 hz6 q1 q2
        obtain ⟨rfs, n8, eSt8, iSt8⟩ := tt8.st
        have hrl : rfs.toList.length = p.2.length := iSt8.length
        obtain ⟨base, tail, o1, o2, o3, o4, o5, KX, T, FO, NO, d1, d2, d3, d4, d5, cov, kb⟩ := SS.open5 (tt8.ss) [] G eL (fun _ h => nomatch h)
        simp only [List.nil_append] at NO
        k_steps
        refine Stop.mk (wpAny_Assign_Name (comp_evE fl (fun _ => true) (fun h v y => ∃ r, rowAt Ld (hideAll h8 [St]) v r ∧ rowAt Ld h y (clear1 left r)) (fun h h' v y k ⟨r, h1, h2⟩ => ⟨r, h1, h2.kp k⟩) hh rfl (by decide) rfl (by decide) rfl (stopQ ?_)))
        k_steps
        refine Stop.mk ?_
        dsimp only
        refine ⟨_, _, Src.list (its := rfs.toList) ⟨_, eSt8, rfl, _, rfl⟩ (by omega), (tt8.ss.ok G (by show ScopeKind.function ≠ ScopeKind.module; decide) rfl eL).f, ?_, ?_⟩
        · intro ex C j v h tk m2 E' hex hC0 hP hnC hm kp
          obtain ⟨old, hold, iold⟩ := paired_get iSt8 j v hP
          obtain ⟨la, zsa, rfl, nla, hla, hza⟩ := id iold
          have gold : Good old := hgM old (List.mem_of_getElem? hold)
          have ttc := tt8.kp G kp (by show ScopeKind.function ≠ ScopeKind.module; decide) rfl eL
          obtain ⟨oC, eC, hoC⟩ := LCg.ns_obj hnC
          have hla8 : h8.IsList la zsa.toArray := let ⟨o, e, r⟩ := hla; ⟨o, of_hideAll _ e, r⟩
          have hlac : h.IsList la zsa.toArray := kp.isList hla8
          have nCL : C ≠ L := fun q => by
            obtain ⟨o, _, _, e, _⟩ := tt8.ss.ns
            rw [← q, hC0] at e; cases e
          have hclear : ∀ hb : Bool, old.any (· == mx) = hb → clear1 left old = if hb then bothL old left else old := fun hb e => by
            unfold clear1; rw [← hmax, e]
          clear KX T FO NO cov
          obtain ⟨base, tail, o1, o2, o3, o4, o5, KX, T, FO, NO, d1, d2, d3, d4, d5, cov, kb⟩ := SS.open5 (ttc.ss) [(C, oC)] G eL (by
            intro q hq
            cases List.mem_singleton.mp hq
            exact ⟨eC, nCL, none_of tt8.ss.k hC0⟩)
          simp only [List.nil_append, List.cons_append] at NO
          refine wpAny_tests_nil ⟨rfl, h, _, rfl, .refl, fun _ E'' => stopQ ?_⟩
          k_steps
          refine Stop.mk (in_list_ints hlac hza ?_)
          k_steps
          · rename_i hin
            obtain ⟨q1, q2, zsl, hll, hzl⟩ := ttc.ls _ (.head _)
            refine Stop.mk (both_spec (mg := mg) (mb := mb) (ttc.ss.ok G (by show ScopeKind.function ≠ ScopeKind.module; decide) rfl eL) (Around.frames_deeper hA) (by show A.depth + 1 < 880; omega) hh hlac hza hll hzl
              (by have := gold.len; omega) (by have := gleft.len; show left.length ≤ 64; omega) fun h9 tk9 D zs9 k9 nD hD hz9 => Stop.mk ⟨h9, _, rfl, k9, old, iold, D, zs9, rfl, fun q => ?_, isList_hide hD (fun q => ?_), ?_⟩)
            · obtain ⟨_, _, e, _⟩ := ttc.ld; rw [← q, nD] at e; cases e
            · obtain ⟨_, o, e⟩ := hex _ q; rw [nD] at e; cases e
            · rw [hclear true hin]; exact hz9
          · rename_i hin
            refine Stop.mk ⟨h, _, rfl, .refl, old, iold, la, zsa, rfl, nla, isList_hide hlac (fun q => ?_), ?_⟩
            · obtain ⟨e0, _⟩ := hex _ q; obtain ⟨o, e, _⟩ := hla8; rw [e0] at e; cases e
            · rw [hclear false hin]; exact hza
        · intro D hm tk ys vs9 hD hpl hlen9 hP9 hpa kpm
          obtain rfl := srcVals hlen9 hP9
          have ttm := tt8.kp G kpm (by show ScopeKind.function ≠ ScopeKind.module; decide) rfl eL
          refine wpAny_storeName_cell rfl rfl rfl (ttm.ss.c 2 _ rfl) fun h9 hc9 hs9 => ?_
          have pr := pairMap iSt8 hpa
          have tt9 := ttm.newSt (D := D) (M' := p.2.map (clear1 left)) (hpl.extBut hs9.extBut (fun q => by
              obtain ⟨o, e, d⟩ := ttm.ss.c 2 _ rfl
              obtain ⟨n, e'⟩ := hpl
              rw [q, e] at e'; cases e'; cases d)) (none_of tt8.ss.k hD) (fun q => by obtain ⟨_, _, e, _⟩ := tt8.ld; rw [q, hD] at e; cases e)
            (fun q hq q' => by
              obtain ⟨_, _, zs, ⟨o, e, _⟩, _⟩ := tt8.ls q hq
              rw [q', hD] at e; cases e)
            (fun b o n e => hs9.extBut b o n e) hc9 (pr.mono fun _ _ => rowAt.keep ((Keep'.cell (fun b o n e => hs9.extBut b o n e) (ttm.ss.c 2 _ rfl)).hide fun _ h => nomatch h)) eL
          clear KX T FO NO cov
          obtain ⟨base, tail, o1, o2, o3, o4, o5, KX, T, FO, NO, d1, d2, d3, d4, d5, cov, kb⟩ := SS.open5 (tt9.ss) [] G eL (fun _ h => nomatch h)
          simp only [List.nil_append] at NO
          k_steps
          obtain ⟨rfs9, n9, eSt9, iSt9⟩ := tt9.st
          have hl9 : rfs9.size = p.2.length := by rw [← Array.length_toList, iSt9.length, List.length_map]
          refine Stop.mk (Calls.getMethod_list_append eSt9 rfl rfl ?_)
          k_steps
          refine Stop.mk (append_at (its := rfs9) eSt9 (fun h10 hs10 e10 => ?_) (by rw [sizeLine_eq]; omega))
          have tt10 := tt9.addSt eSt9 hs10 e10
          clear KX T FO NO cov
          obtain ⟨base, tail, o1, o2, o3, o4, o5, KX, T, FO, NO, d1, d2, d3, d4, d5, cov, kb⟩ := SS.open5 (tt10.ss) [] G eL (fun _ h => nomatch h)
          simp only [List.nil_append] at NO
          k_steps
          obtain ⟨lvs10, n10, eLd10, iLd10⟩ := tt10.ld
          have hl10 : lvs10.size = p.1.length := by rw [← Array.length_toList, iLd10.length]
          refine Stop.mk (Calls.getMethod_list_append eLd10 rfl rfl ?_)
          k_steps
          refine Stop.mk (append_at (its := lvs10) eLd10 (fun h11 hs11 e11 => ?_) (by rw [sizeLine_eq]; omega))
          have tt11 := tt10.addLd eLd10 hs11 e11
          k_steps
          have hst : stepS p r = (p.1 ++ [mx], p.2.map (clear1 left) ++ [left]) := by
            unfold stepS
            dsimp only
            rw [← hlen, hleft, if_neg hne6, hmax]
          have tt12 := tt11.less (al' := []) (ls' := []) (fun _ h => nomatch h) (fun _ h => nomatch h)
          rw [show p.1 ++ [mx] = (stepS p r).1 from by rw [hst], show p.2.map (clear1 left) ++ [left] = (stepS p r).2 from by rw [hst]] at tt12
          refine Stop.mk ⟨.inl rfl, h11, _, rfl, ⟨D, _, _, _, stepS p r, ?_, tt12⟩, (tt11.al _ (.head _)).1⟩
          rw [List.take_add_one, hr, show (some r).toList = [r] from rfl, standL_snoc, ← hp]
      · rename_i hne6
        refine Stop.mk ⟨.inl rfl, _, _, rfl, ⟨St, _, _, _, p, ?_, tt6.less (fun _ h => nomatch h) (fun _ h => nomatch h)⟩, (tt6.al _ (.head _)).1⟩
        have : left = [] := Classical.not_not.mp hne6
        rw [List.take_add_one, hr, show (some r).toList = [r] from rfl, standL_snoc, ← hp]
        show p = stepS p r
        unfold stepS
        dsimp only
        rw [← hlen, hleft, this, if_pos rfl]
  · rintro h tk ⟨St, m, vl, vd, p, hp, tt⟩
    dsimp only
    rw [hvl, List.take_length] at hp
    clear KX T FO NO cov
    obtain ⟨base, tail, o1, o2, o3, o4, o5, KX, T, FO, NO, d1, d2, d3, d4, d5, cov, kb⟩ := SS.open5 (tt.ss) [] G eL (fun _ h => nomatch h)
    simp only [List.nil_append] at NO
    k_steps
    have hgM : ∀ r ∈ p.2, Good r := by rw [hp]; exact standL_good hgood
    have hML : p.1.length = p.2.length := by rw [hp]; exact standL_len _
    have hple : p.1.length ≤ 26 := by have := standL_le rows; rw [← hp] at this; omega
    obtain ⟨lvs, nn, eLd, iLd⟩ := tt.ld
    obtain ⟨rfs, n8, eSt, iSt⟩ := tt.st
    have hlen := iLd.length
    rw [Array.length_toList] at hlen
    have hrl : rfs.toList.length = p.2.length := iSt.length
    refine Stop.mk (comp_evE fl (fun _ => true) (fun h v y => ∃ k : Nat, (∃ t, v = .int k t) ∧ pairAt h y (p.1.getD k 0, diffL order (p.2.getD k []))) (fun h h' v y k ⟨r, h1, h2⟩ => ⟨r, h1, h2.kp k⟩) hh rfl (by decide) rfl (by decide) rfl (stopQ ?_))
    k_steps
    refine Stop.mk (len_list ⟨_, eLd, rfl, _, rfl⟩ (by omega) ?_)
    k_steps
    rename Fr _ _ _ _ => FZ
    rename News _ _ _ _ => NZ
    obtain ⟨ss5, r5⟩ := cov _ _ _ FZ NZ (by (intro p hp; first | exact hp | exact .tail _ hp | exact .tail _ (.tail _ hp) | exact .tail _ (.tail _ (.tail _ hp)) | exact .tail _ (.tail _ (.tail _ (.tail _ hp)))))
    have tt5 := tt.rest ss5 r5
    rename_i h6 _ _ _ _ rg _
    refine Stop.mk ?_
    dsimp only at rg ⊢
    refine ⟨_, _, Src.range (n := lvs.size) rg (by omega), (tt5.ss.ok G (by show ScopeKind.function ≠ ScopeKind.module; decide) rfl eL).f, ?_, ?_⟩
    · intro ex C j v h tk m2 E' hex hC0 hP hnC hm kp
      obtain ⟨hj, tv, rfl⟩ := hP
      have ttc := tt5.kp G kp (by show ScopeKind.function ≠ ScopeKind.module; decide) rfl eL
      obtain ⟨oC, eC, hoC⟩ := LCg.ns_obj hnC
      have nCL : C ≠ L := fun q => by
        obtain ⟨o, _, _, e, _⟩ := tt5.ss.ns
        rw [← q, hC0] at e; cases e
      clear KX T FZ NZ cov
      obtain ⟨base, tail, o1, o2, o3, o4, o5, KX, T, FO, NO, d1, d2, d3, d4, d5, cov, kb⟩ := SS.open5 (ttc.ss) [(C, oC)] G eL (by
        intro q hq
        cases List.mem_singleton.mp hq
        exact ⟨eC, nCL, none_of tt5.ss.k hC0⟩)
      simp only [List.nil_append, List.cons_append] at NO
      refine wpAny_tests_nil ⟨rfl, h, _, rfl, .refl, fun _ E'' => stopQ ?_⟩
      k_steps
      obtain ⟨lvs2, n2, eLd2, iLd2⟩ := ttc.ld
      have hlen2 := iLd2.length
      rw [Array.length_toList] at hlen2
      have hk' : j < p.1.length := by omega
      obtain ⟨tL, hxL⟩ := intsAre_at iLd2 j hk'
      refine Stop.mk (item_list (x := .int p.1[j] tL) ⟨_, eLd2, rfl, _, rfl⟩ (by omega) (by omega) (by simpa using hxL) ?_)
      k_steps
      refine Stop.mk (Call_ ?_)
      k_steps
      refine Stop.mk (nmB FO KX T (by k_is) boot_list (by decide) ?_ rfl rfl rfl rfl (by decide))
      k_steps
      refine Stop.mk (Call_ ?_)
      k_steps
      obtain ⟨rfs2, n3, eSt2, iSt2⟩ := ttc.st
      have hrl2 : rfs2.toList.length = p.2.length := iSt2.length
      have hkr : j < rfs2.toList.length := by omega
      obtain ⟨old, hold, la, zsa, hv2, nla, hla, hza⟩ := paired_get iSt2 j _ (List.getElem?_eq_getElem hkr)
      have hla' : h.IsList la zsa.toArray := let ⟨o, e, r⟩ := hla; ⟨o, of_hideAll _ e, r⟩
      have gold : Good old := hgM old (List.mem_of_getElem? hold)
      refine Stop.mk (item_list (x := .ref la) ⟨_, eSt2, rfl, _, rfl⟩ (by omega) (by omega) (by
        rw [← hv2, ← Array.getElem?_toList]; exact List.getElem?_eq_getElem hkr) ?_)
      k_steps
      have okh := G.kp ttc.ss.k
      refine Stop.mk (difference_spec (mg := mg) (mb := mb) okh.all (by show A.depth + 1 < 900; omega) hh (ttc.ss.k.isList hb) hla' hza (by have := gold.len; omega) fun h2 tk2 x dx it u S k2 n1 n2 n3 ff => ?_)
      k_steps
      have ng : ∀ c, h.get? c = none → (gnd fl h).get? c = none := fun c e => by
        cases q : (gnd fl h).get? c with
        | none => rfl
        | some o => have := gnd_of q; rw [e] at this; cases this
      refine list_ff (mg := mg) (mb := mb) (b₀ := gnd fl h) okh.g (fun b o e => k2 b o (gnd_of e)) (ng _ n3) (ng _ n1) (ng _ n2) ((ttc.ss.ok G (by show ScopeKind.function ≠ ScopeKind.module; decide) rfl eL).f.stays k2) (Around.frames_deeper hA) (by show A.depth + 1 < 890; omega) hh ff
        (isList_any (fun b o e => ⟨o.slots, k2 b o e⟩) (ttc.ss.k.isList hb)) hord hordl fun h3 tk3 D1 acc1 c1 b3 nD1 hD1 hacc1 => ?_
      have K13 := Kp.of_B k2 b3 (by simpa using n3)
      have hexn : ∀ c, h.get? c = none → c ∉ ex := fun c e q => by
        obtain ⟨_, o, e'⟩ := hex c q; rw [e] at e'; cases e'
      have nE : h.get? h3.objs.size = none := none_of K13 (Heap.get?_none_of_le (Nat.le_refl _))
      have nD0 : h.get? D1 = none := by
        cases q : h.get? D1 with
        | none => rfl
        | some o => have := k2 _ _ q; rw [nD1] at this; cases this
      k_steps
      refine wpAny_newObj_type (Stop.mk ⟨_, _, rfl, K13.stays fun b o e => Heap.get?_push_of_some _ e, j, ⟨_, rfl⟩, h3.objs.size, tL, D1, acc1.toList, rfl, isList_hide ?_ (hexn _ nE),
        isList_hide ⟨_, Heap.get?_push_of_some _ hD1, rfl, c1, by simp⟩ (hexn _ nD0), ?_⟩)
      · have e1 : p.1.getD j 0 = p.1[j] := by rw [List.getD_eq_getElem?_getD, List.getElem?_eq_getElem hk']; rfl
        rw [e1]
        exact ⟨_, Heap.get?_push_size _ rfl, rfl, _, rfl⟩
      · have e2 : p.2.getD j [] = old := by rw [List.getD_eq_getElem?_getD, hold]; rfl
        show IntsAre acc1.toList (diffL order (p.2.getD j []))
        rw [e2]; exact hacc1
    · intro D hm tk ys vs9 hD hpl hlen9 hP9 hpa kpm
      k_steps
      refine Stop.mk ?_
      rw [← hp] at hg h2 hQ
      have ttm := tt5.kp G kpm (by show ScopeKind.function ≠ ScopeKind.module; decide) rfl eL
      clear KX T FZ NZ cov kb ss5 r5
      obtain ⟨base, tail, o1, o2, o3, o4, o5, KX, T, FO, NO, d1, d2, d3, d4, d5, cov, kb⟩ := SS.open5 (ttm.ss) [] G eL (fun _ h => nomatch h)
      simp only [List.nil_append] at NO
      have hyl : ys.toList.length = p.1.length := by
        have := hpa.length
        rw [List.filter_eq_self.mpr (fun _ _ => rfl)] at this
        omega
      have hpr : ∀ i, i < p.1.length → ∃ y, ys.toList[i]? = some y ∧ pairAt hm y (p.1.getD i 0, diffL order (p.2.getD i [])) := fun i hi => by
        rw [List.filter_eq_self.mpr (fun _ _ => rfl)] at hpa
        have hi9 : i < vs9.length := by omega
        obtain ⟨y, hy, k, ⟨t, hk⟩, hpk⟩ := paired_get hpa i _ (List.getElem?_eq_getElem hi9)
        obtain ⟨_, t', hv⟩ := hP9 i _ (List.getElem?_eq_getElem hi9)
        rw [hv] at hk
        have : i = k := by injection hk with hk; omega
        subst this
        exact ⟨y, hy, hpk.kp (fl := []) Kp.unhide⟩
      have hgd : ∀ i, i < p.1.length → pairAt hm (ys.toList.getD i Value.none) (p.1.getD i 0, diffL order (p.2.getD i [])) := fun i hi => by
        obtain ⟨y, hy, hpk⟩ := hpr i hi
        rw [List.getD_eq_getElem?_getD, hy]; exact hpk
      have hkeep : ∀ h7 y q, Rest L [] hm h7 → pairAt hm y q → pairAt h7 y q := fun h7 y q r ⟨e, t, d, zs, a, l, l', i⟩ => ⟨e, t, d, zs, a, r.isList ttm.ss.ns l (fun q => nomatch q), r.isList ttm.ss.ns l' (fun q => nomatch q), i⟩
      refine sorted_pairs (xs := p.1) (vs := ys.toList) (by show A.units + 3 < 9000; omega) FO NO (by rw [Array.toArray_toList]; exact hpl.isList) hyl h2 hg (fun h7 F7 N7 i hi => ?_) fun D2 q h7 F7 N7 hlt nD2 nDL hq1 hq2 hq3 hl2 => Stop.mk ?_
      · obtain ⟨_, r7⟩ := cov _ _ _ F7 N7 (by (intro p hp; first | exact hp | exact .tail _ hp | exact .tail _ (.tail _ hp) | exact .tail _ (.tail _ (.tail _ hp)) | exact .tail _ (.tail _ (.tail _ (.tail _ hp)))))
        obtain ⟨e, t, d, zs, ey, l, _⟩ := hkeep h7 _ _ r7 (hgd i hi)
        refine ⟨e, t, d, ey, ?_⟩
        rw [List.getD_eq_getElem?_getD, List.getElem?_eq_getElem hi] at l
        exact l
      · obtain ⟨ss7, r7⟩ := cov _ _ _ F7 N7 (by (intro p hp; first | exact hp | exact .tail _ hp | exact .tail _ (.tail _ hp) | exact .tail _ (.tail _ (.tail _ hp)) | exact .tail _ (.tail _ (.tail _ (.tail _ hp)))))
        refine Stop.mk (Stop.mk (hQ h7 _ D2 _ (q.map fun i => (p.1.getD i 0, diffL order (p.2.getD i []))) ss7.k (kb _ nD2) hl2 ?_ ?_ ?_))
        · clear hq2 hq3 hl2
          induction q with
          | nil => exact .nil
          | cons i q ih => exact .cons (hkeep h7 _ _ r7 (hgd i (hq1 i (.head _)))) (ih fun j hj => hq1 j (.tail _ hj))
        · rw [List.map_map]; exact hq3
        · intro z
          rw [List.mem_map]
          constructor
          · rintro ⟨i, hi, rfl⟩; exact ⟨i, hq1 i hi, rfl⟩
          · rintro ⟨i, hi, rfl⟩; exact ⟨i, hq2 i hi, rfl⟩
end Mine

open PySem PySem.W PySem.Spec PySem.Calls PyProof.Rows
set_option Elab.async false
set_option maxRecDepth 100000
set_option maxHeartbeats 8000000
namespace Mine
example : PySem.Challenge.rw_in0205_01 = PySem.Challenge.rw_in0205_01 ∧ hd.heap_39 = hd.heap_39 := by k_fill; exact ⟨rfl, rfl⟩
section
variable {w : World} {mg mb : Str → Option Value} {fl : List Env} {s0 h h' : Heap} {L : Nat} {m m' : Str → Option Value} {cs : List (Option Value)} {env : Env}
/-- open a stretch: the library walks on from here -/
theorem SS.open3 {v1 v2 v3 : Option Value} (x : SS fl s0 L h m [v1, v2, v3]) (ex : List (Addr × Obj)) (G : Ok w mg mb fl s0) (eL : L = s0.objs.size) (hex : ∀ p ∈ ex, h.get? p.1 = some p.2 ∧ p.1 ≠ L ∧ s0.get? p.1 = none) :
    ∃ base tail o1 o2 o3, (hd.heap_39 w.params).In base ∧ TopRead hd.view_39 (looseW hd.view_39 [Str.ofString "filterfalse"]) mg mb base ∧ Fr base L h m ∧
      News base L h (ex ++ ((L + 1, o1) :: (L + 2, o2) :: (L + 3, o3) :: tail)) ∧ o1.data = .cell v1 ∧ o2.data = .cell v2 ∧ o3.data = .cell v3 ∧
      (∀ h' m' news', Fr base L h' m' → News base L h' news' → (∀ p ∈ (L + 1, o1) :: (L + 2, o2) :: (L + 3, o3) :: tail, p ∈ news') → SS fl s0 L h' m' [v1, v2, v3] ∧ Rest L (ex.map (·.1)) h h') ∧
      ∀ b, base.get? b = none → s0.get? b = none := by
  obtain ⟨o1, e1, d1⟩ := x.c 0 v1 rfl
  obtain ⟨o2, e2, d2⟩ := x.c 1 v2 rfl
  obtain ⟨o3, e3, d3⟩ := x.c 2 v3 rfl
  have nn : ∀ j, s0.get? (L + 1 + j) = none := fun j => Heap.get?_none_of_le (by rw [← eL]; show @LE.le Nat _ L (L + 1 + j); omega)
  obtain ⟨base, tail, g, K, F, N, cov⟩ := stretch (ex ++ [(L + 1, o1), (L + 2, o2), (L + 3, o3)]) eL G x.k x.ns (fun p hp => by
    rcases List.mem_append.mp hp with hp | hp
    · exact hex p hp
    · simp only [List.mem_cons, List.not_mem_nil, or_false] at hp
      rcases hp with rfl | rfl | rfl
      · exact ⟨e1, by show @Ne Nat (L + 1) L; omega, nn 0⟩
      · exact ⟨e2, by show @Ne Nat (L + 2) L; omega, nn 1⟩
      · exact ⟨e3, by show @Ne Nat (L + 3) L; omega, nn 2⟩)

  refine ⟨base, tail, o1, o2, o3, g.X, g.T, F, by simpa using N, d1, d2, d3, fun h' m' news' F' N' hs => ⟨⟨K.stays F'.keep, F'.ns, ?_⟩, ?_⟩, fun b e => none_of K e⟩
  · intro j v e
    have hj : j < 3 := (List.getElem?_eq_some_iff.mp e).1
    match j, hj, e with
    | 0, _, e => cases e; exact ⟨o1, (N' _ (hs (L + 1, o1) (by simp))).1, d1⟩
    | 1, _, e => cases e; exact ⟨o2, (N' _ (hs (L + 2, o2) (by simp))).1, d2⟩
    | 2, _, e => cases e; exact ⟨o3, (N' _ (hs (L + 3, o3) (by simp))).1, d3⟩
  · have R := cov h' m' news' F' N' fun p hp => hs p (by simp [hp])
    intro b o e nL nx
    by_cases q : b ∈ [L + 1, L + 2, L + 3]
    · simp only [List.mem_cons, List.not_mem_nil, or_false] at q
      rcases q with rfl | rfl | rfl
      · rw [← e]; exact ((N' _ (hs (L + 1, o1) (by simp))).1).trans e1.symm
      · rw [← e]; exact ((N' _ (hs (L + 2, o2) (by simp))).1).trans e2.symm
      · rw [← e]; exact ((N' _ (hs (L + 3, o3) (by simp))).1).trans e3.symm
    · refine R b o e nL ?_
      rw [List.map_append]
      intro z
      rcases List.mem_append.mp z with z | z
      · exact nx z
      · exact q (by simpa using z)
end
theorem SS.frame1 {fl : List Env} {s0 h h' : Heap} {L : Nat} {m m' : Str → Option Value} {cs : List (Option Value)} (x : SS fl s0 L h m cs) (k : ∀ b o, b ≠ L → h.get? b = some o → h'.get? b = some o) (n : h'.Ns L m') (eL : L = s0.objs.size) : SS fl s0 L h' m' cs := by
  have ne : ∀ b o, s0.get? b = some o → b ≠ L := fun b o e q => by
    have q1 := Heap.lt_size e
    rw [q, eL] at q1
    exact Nat.lt_irrefl _ q1
  refine ⟨⟨fun b o e nf => k b o (ne _ _ e) (x.k.keep b o e nf), fun b o e nf => ?_⟩, n, fun j u e => ?_⟩
  · obtain ⟨sl, e'⟩ := x.k.up b o e nf
    exact ⟨sl, k _ _ (ne _ _ e) e'⟩
  · exact (x.c j u e).any fun o e => ⟨o.slots, k _ o (by show @Ne Nat (L + 1 + j) L; omega) e⟩
local macro_rules | `(tactic| walk_at "exec Assign cons ListComp") => `(tactic| refine Stop.go ?_)
local macro_rules | `(tactic| walk_at "eval ListComp") => `(tactic| refine Stop.go ?_)
local macro_rules | `(tactic| walk_at "exec For") => `(tactic| refine Stop.go ?_)
local macro_rules | `(tactic| walk_at "exec For Name Name cons nil") => `(tactic| refine Stop.go ?_)
local macro_rules | `(tactic| walk_at "exec For Name Call cons nil") => `(tactic| refine Stop.go ?_)
local macro_rules | `(tactic| walk_at "storeName") => `(tactic| refine Stop.go ?_)
local macro_rules | `(tactic| walk_at "subscriptTail") => `(tactic| refine Stop.go ?_)
local macro_rules | `(tactic| walk_at "compareOp NotIn int ref") => `(tactic| refine Stop.go ?_)
local macro_rules | `(tactic| walk_at "compareOp NotEq ref ref") => `(tactic| refine Stop.go ?_)
local macro_rules | `(tactic| walk_at "binaryOp Add") => `(tactic| ((with_reducible show wpAny _ _ (binaryOp _ (Value.ref _) (Value.ref _)) _ _ _); refine Stop.go ?_))
local macro_rules | `(tactic| walk_at "binaryOp Add ref ref") => `(tactic| refine Stop.go ?_)
local macro_rules | `(tactic| walk_at "call builtin:min") => `(tactic| refine Stop.go ?_)
local macro_rules | `(tactic| walk_at "call builtin:list.append") => `(tactic| refine Stop.go ?_)
local macro_rules | `(tactic| walk_at "getMethod ref") => `(tactic| refine Stop.go ?_)
local macro_rules | `(tactic| walk_at "newList") => `(tactic| refine Stop.go ?_)
local macro_rules | `(tactic| walk_at "eval Name") => `(tactic| (refine' nameX_L ?F ?v ?_ ?a ?b; (case a => rfl); (case b => rfl); (case F => k_asm); (case v => assumption)))
def totS (xor : Int → Int → Int) (tot : List Int) (mark : Int) : List Int := if tot.any (· == mark) then tot else tot ++ tot.map (xor mark)
def totL (xor : Int → Int → Int) (ms : List Int) : List Int := ms.foldl (totS xor) [0]
def ledL (tot : List Int) (i : Nat) : List Int := tot.filter fun one => decide ((2 : Int) ^ i ≤ one) && decide (one < (2 : Int) ^ (i + 1))
def minL (l : List Int) : Int := l.foldl min (l.headD 0)
def restL (order : List Int) (least : Int) : List Int := order.filter fun c => (least.fdiv (2 ^ c.toNat)).fmod 2 == 0
def dueL (tot order : List Int) : Nat → List (Int × List Int)
  | 0 => []
  | i + 1 => dueL tot order i ++ (if ledL tot i = [] then [] else [((i : Int), restL order (minL (ledL tot i)))])
theorem dueL_len (tot order : List Int) : ∀ i, (dueL tot order i).length ≤ i
  | 0 => Nat.le_refl _
  | i + 1 => by
    have := dueL_len tot order i
    unfold dueL
    rw [List.length_append]
    split <;> simp <;> omega
theorem min_foldl_le : ∀ (l : List Int) (a : Int), l.foldl min a ≤ a ∧ ∀ c ∈ l, l.foldl min a ≤ c
  | [], a => ⟨Int.le_refl _, fun _ h => nomatch h⟩
  | b :: l, a => by
    obtain ⟨h1, h2⟩ := min_foldl_le l (min a b)
    refine ⟨Int.le_trans h1 (Int.min_le_left _ _), fun c hc => ?_⟩
    rcases List.mem_cons.mp hc with rfl | hc
    · exact Int.le_trans h1 (Int.min_le_right _ _)
    · exact h2 c hc
theorem min_foldl_mem : ∀ (l : List Int) (a : Int), l.foldl min a = a ∨ l.foldl min a ∈ l
  | [], a => .inl rfl
  | b :: l, a => by
    rcases min_foldl_mem l (min a b) with h | h
    · rcases Int.le_total a b with q | q
      · left; show l.foldl min (min a b) = a; rw [h, Int.min_eq_left q]
      · right; show l.foldl min (min a b) ∈ _; rw [h, Int.min_eq_right q]; exact .head _
    · right; exact .tail _ h
theorem minL_of {l : List Int} {M : Int} (h : M ∈ l) (hm : ∀ a, a ∈ l → M ≤ a) : M = minL l := by
  cases l with
  | nil => cases h
  | cons a r =>
    have h1 := min_foldl_le (a :: r) a
    refine Int.le_antisymm ?_ (h1.2 M h)
    rcases min_foldl_mem (a :: r) a with q | q
    · show M ≤ (a :: r).foldl min a; rw [q]; exact hm a (.head _)
    · exact hm _ q
theorem pairsKeep {h h' : Heap} {Du : Addr} {rs : List Value} {prs : List (Int × List Int)} (k : Keep' [] h h') (p : Paired (pairAt (hideAll h [Du])) rs prs) : Paired (pairAt (hideAll h' [Du])) rs prs :=
  p.mono fun a q ⟨e, t, d, zs, ea, l1, l2, ii⟩ =>
    have kh := k.hide (ex' := [Du]) fun _ h => nomatch h
    ⟨e, t, d, zs, ea, kh.isList l1 (fun q => nomatch q), kh.isList l2 (fun q => nomatch q), ii⟩
theorem pairsBut {h h' : Heap} {Du : Addr} {rs : List Value} {prs : List (Int × List Int)} (k : ∀ b o, b ≠ Du → h.get? b = some o → h'.get? b = some o) (p : Paired (pairAt (hideAll h [Du])) rs prs) : Paired (pairAt (hideAll h' [Du])) rs prs :=
  p.mono fun a q ⟨e, t, d, zs, ea, l1, l2, ii⟩ =>
    have up : ∀ a xs, (hideAll h [Du]).IsList a xs → (hideAll h' [Du]).IsList a xs := fun a xs l => by
      obtain ⟨ol, el, r⟩ := l
      have hc : a ∉ [Du] := fun q => by rw [hideAll_none _ q] at el; cases el
      exact ⟨ol, hideAll_get _ (k _ _ (by simpa using hc) (of_hideAll _ el)) hc, r⟩
    ⟨e, t, d, zs, ea, up _ _ l1, up _ _ l2, ii⟩
theorem totL_snoc {xor : Int → Int → Int} (ms : List Int) (i : Nat) (h : i < ms.length) : totL xor (ms.take (i + 1)) = totS xor (totL xor (ms.take i)) ms[i] := by
  unfold totL
  rw [List.take_add_one, List.getElem?_eq_getElem h, show (some ms[i]).toList = [ms[i]] from rfl, List.foldl_append]
  rfl
theorem due_spec {w : World} {mg mb : Str → Option Value} {A : Around} {s : Shared} {Q E : Value → Shared → Prop} {a b : Addr} {vs ws : List Value} {marks order : List Int}
   (G0 : Gd w mg mb s.heap) (hroom : A.depth < 870) (hu : A.units < 8900) (hh : A.handled = none)
   (ha : s.heap.IsList a vs.toArray) (hma : IntsAre vs marks) (hn : marks.length ≤ 26) (hb : s.heap.IsList b ws.toArray) (hord : IntsAre ws order) (hordl : order.length ≤ 64) (hoz : ∀ c ∈ order, 0 ≤ c ∧ c < 6) (h64 : ∀ i, (totL Builtin.bitXor (marks.take i)).length ≤ 64)
   (hQ : ∀ h' tk D ys, s.heap.StaysIn h' → s.heap.get? D = none → h'.IsList D (List.toArray ys) → Paired (pairAt h') ys (dueL (totL Builtin.bitXor marks) order 6) → Q (.ref D) { s with heap := h', toks := tk }) :
   wpAny (model P0 w) A (call (.ref 80) [.ref a, .ref b]) Q E s := by
  have ⟨KX, T⟩ := G0
  have G : Ok w mg mb [] s.heap := ⟨G0, fms_nil⟩
  refine wpAny_call (enterC (base := s.heap) (binds := [(Str.ofString "marks", .ref a), (Str.ofString "order", .ref b)]) (fun b o e => e) T.nolimit (KX 80 _ rfl) rfl (codeRec_of KX (by rfl)) (by show A.depth < 1000; omega) (Nat.le_refl _) (BindsTo.of_eq rfl) (kindsX rfl) (by decide) (fun L h₁ tk cells eL F N Y hfr hk => ?_))
  clear KX T
  have ssk : ∀ m, h₁.Ns L m → SS [] s.heap L h₁ m [none, none, none] := by
    refine fun m ns => ⟨.of_stays hk, ns, ?_⟩
    cases Y with | cons d1 Y => cases Y with | cons d2 Y => cases Y with | cons d3 Y =>
    cases Y
    intro j v e
    have hj : j < 3 := (List.getElem?_eq_some_iff.mp e).1
    match j, hj, e with
    | 2, _, e => cases e; exact ⟨_, (N _ (.head _)).1, d1⟩
    | 1, _, e => cases e; exact ⟨_, (N _ (.tail _ (.head _))).1, d2⟩
    | 0, _, e => cases e; exact ⟨_, (N _ (.tail _ (.tail _ (.head _)))).1, d3⟩
  have ss := ssk _ F.ns
  clear F N Y hfr hk ssk
  obtain ⟨base, tail, o1, o2, o3, KX, T, FO, NO, d1, d2, d3, cov, kb⟩ := SS.open3 (ss) [] G eL (fun _ h => nomatch h)
  simp only [List.nil_append] at NO
  refine stopQ ?_
  k_steps
  have nLT : h₁.objs.size ≠ L := Nat.ne_of_gt ss.ns.lt
  refine Stop.mk (wpAny_newObj_type (wpAny_storeName_local rfl (ss.stays (fun b o e => Heap.get?_push_of_some _ e)).ns (fun h3 hn3 hs3 => ?_) rfl))
  have ss3 := (ss.stays (fun b o e => Heap.get?_push_of_some _ e)).frame hs3 hn3 eL
  have nx := hs3.extBut _ _ nLT (Heap.get?_push_size _ rfl)
  dsimp only at nx ss3 ⊢
  generalize h₁.objs.size = T0 at nx nLT ss3 ⊢
  obtain ⟨m3, hm3, ht3, ho3, ha3⟩ : ∃ m, SS [] s.heap L h3 m [none, none, none] ∧ m (Str.ofString "totals") = some (.ref T0) ∧ m (Str.ofString "order") = some (.ref b) ∧ m (Str.ofString "marks") = some (.ref a) := ⟨_, ss3, rfl, rfl, rfl⟩
  have hT3 : ∃ zs, h3.IsList T0 (List.toArray zs) ∧ IntsAre zs [0] := ⟨[.int 0 _], ⟨_, nx, rfl, _, rfl⟩, .cons _ _ .nil⟩
  clear KX T FO NO cov kb ss3 ss nx hn3 hs3
  obtain ⟨base, tail, o1, o2, o3, KX, T, FO, NO, d1, d2, d3, cov, kb⟩ := SS.open3 (hm3) [] G eL (fun _ h => nomatch h)
  simp only [List.nil_append] at NO
  k_steps
  refine Stop.mk (wpAny_For (stopQ ?_))
  k_steps
  refine Stop.mk ?_
  have hvl : vs.length = marks.length := hma.length
  have hI0 : @LT.lt Nat _ (L + 3) h3.objs.size := by
    obtain ⟨o, e, _⟩ := hm3.c 2 _ rfl
    exact Heap.lt_size e
  refine for_src (Src.list (its := vs) (hm3.k.isList ha) (by omega)) hh
    (fun i h => ∃ m mk Tt zs, SS [] s.heap L h m [mk, none, none] ∧ m (Str.ofString "totals") = some (.ref Tt) ∧ m (Str.ofString "order") = some (.ref b) ∧ h.IsList Tt (List.toArray zs) ∧ IntsAre zs (totL Builtin.bitXor (marks.take i))) _ rfl
    (fun oI => ?_) ?_ ?_ ?_ ?_
  · obtain ⟨zs, l, i⟩ := hT3
    exact ⟨m3, none, T0, zs, hm3.stays fun b o e => Heap.get?_push_of_some _ e, ht3, ho3, l.push _, i⟩
  · rintro i h h' o ⟨m, mk, Tt, zs, ss, e1, e2, l, z⟩ e ⟨y, d⟩ k
    refine ⟨m, mk, Tt, zs, ss.but k eL hI0, e1, e2, ?_, z⟩
    obtain ⟨ol, el, hc, n, hd⟩ := l
    exact ⟨ol, k _ _ (fun q => by rw [q, e] at el; cases el; rw [d] at hd; cases hd) el, hc, n, hd⟩
  · rintro ax its q l i h ⟨m, mk, Tt, zs, ss, e1, e2, l', z⟩
    cases q
    rw [isList_one l (hm3.k.isList ha)]
    exact ss.k.isList ha
  · rintro i v h tk oI hi hv ⟨m, mk, Tt, zs, ss, e1, e2, l, z⟩ eI dI
    generalize hII : h3.objs.size = I at *
    obtain ⟨t, hvi⟩ := intsAre_at hma i (by omega)
    rw [hv] at hvi
    cases hvi
    clear KX T FO NO cov kb
    refine wpAny_assign_Name (wpAny_storeName_cell rfl rfl rfl (ss.c 0 _ rfl) fun h4 hc4 hs4 => ?_)
    have ss4 : SS [] s.heap L h4 m [some (.int marks[i] t), none, none] := ss.set (i := 0) (by show 0 < 3; decide) (fun b o n e => hs4.extBut b o n e) hc4 eL
    have k4 : Keep' [] h h4 := .cell (fun b o n e => hs4.extBut b o n e) (ss.c 0 _ rfl)
    have l4 := k4.isList l (fun q => nomatch q)
    have eI4 : h4.get? I = some oI := hs4.extBut _ _ (by show @Ne Nat I (L + 1); omega) eI
    obtain ⟨base, tail, o1, o2, o3, KX, T, FO, NO, d1, d2, d3, cov, kb⟩ := SS.open3 (ss4) [] G eL (fun _ h => nomatch h)
    simp only [List.nil_append] at NO
    refine stopQ ?_
    k_steps
    refine Stop.mk (notin_list_ints l4 z ?_)
    k_steps
    · rename_i hin
      refine Stop.mk ⟨.inl rfl, h4, _, rfl, ⟨m, _, Tt, zs, ss4, e1, e2, l4, ?_⟩, eI4⟩
      rw [totL_snoc marks i (by omega)]
      unfold totS
      rw [if_pos hin]
      exact z
    · rename_i hin
      have hzl := z.length
      have hz64 := h64 i
      refine Stop.mk (comp_ev (fl := []) (fun _ => true) (fun _ v y => ∀ n t, v = .int n t → ∃ t', y = .int (Builtin.bitXor marks[i] n) t') (fun _ _ _ _ _ h => h) hh rfl (by decide) rfl (by decide) rfl (stopQ ?_))
      k_steps
      refine Stop.mk ?_
      dsimp only
      refine ⟨_, _, Src.list (its := zs) l4 (by omega), fms_nil, ?_, ?_⟩
      · intro ex C j v h5 tk m2 E' hex hC0 hP hnC hm kp
        obtain ⟨nj, tj, rfl, _⟩ := intsAre_mem z (List.mem_of_getElem? hP)
        have ss5 := ss4.stays kp.nil
        obtain ⟨oC, eC, hoC⟩ := LCg.ns_obj hnC
        have nCL : C ≠ L := fun q => by
          obtain ⟨o, _, _, e, _⟩ := ss4.ns
          rw [← q, hC0] at e; cases e
        clear KX T FO NO cov kb
        obtain ⟨base, tail, o1, o2, o3, KX, T, FO, NO, d1, d2, d3, cov, kb⟩ := SS.open3 (ss5) [(C, oC)] G eL (by
          intro q hq
          cases List.mem_singleton.mp hq
          exact ⟨eC, nCL, none_of ss4.k hC0⟩)
        simp only [List.nil_append, List.cons_append] at NO
        refine wpAny_tests_nil ⟨rfl, h5, _, rfl, .refl, fun _ E'' => stopQ ?_⟩
        k_steps
        exact Stop.mk ⟨h5, _, rfl, .refl, fun n t e => by cases e; exact ⟨_, rfl⟩⟩
      · intro D hm tk ys vs9 hD hpl hlen9 hP9 hpa kpm
        obtain rfl := srcVals hlen9 hP9
        have hys := compInts (pz := fun _ => true) (f := fun n => Builtin.bitXor marks[i] n) (fun _ _ => rfl) (fun n t y _ h => h n t rfl) z hpa
        rw [List.filter_eq_self.mpr (fun _ _ => rfl)] at hys
        have hyl := hys.length
        rw [List.length_map] at hyl
        have ss6 := ss4.stays kpm.nil
        refine add_raw (vs := vs9) (ws := ys.toList) (isList_any (fun b o e => ⟨o.slots, kpm.nil b o e⟩) l4) (by rw [Array.toArray_toList]; exact hpl.isList) ?_ (by rw [sizeLine_eq]; omega)
        have ss7 := ss6.stays (h' := hm.push { cls := .type "list", data := .seq (vs9 ++ ys.toList).toArray }) fun b o e => Heap.get?_push_of_some _ e
        refine wpAny_storeName_local rfl ss7.ns (fun h8 hn8 hs8 => ?_) rfl
        have ss8 := ss7.frame hs8 hn8 eL
        have nLm : L ≠ hm.objs.size := Nat.ne_of_lt ss6.ns.lt
        k_steps
        refine Stop.mk ⟨.inl rfl, h8, _, rfl, ⟨_, _, hm.objs.size, vs9 ++ ys.toList, ss8, if_pos rfl, (if_neg (by decide)).trans e2, ⟨_, hs8.extBut _ _ (Ne.symm nLm) (Heap.get?_push_size _ rfl), rfl, _, rfl⟩, ?_⟩, hs8.extBut _ _ ?_ (Heap.get?_push_of_some _ (kpm.nil _ _ eI4))⟩
        · rw [totL_snoc marks i (by omega)]
          unfold totS
          rw [if_neg (by rw [hin]; decide)]
          exact z.append hys
        · show @Ne Nat I L; omega
  · rintro h tk ⟨m, mk, Tt, zs, ss, e1, e2, l, z⟩
    rw [hvl, List.take_length] at z
    dsimp only
    clear KX T FO NO cov kb
    obtain ⟨base, tail, o1, o2, o3, KX, T, FO, NO, d1, d2, d3, cov, kb⟩ := SS.open3 (ss) [] G eL (fun _ h => nomatch h)
    simp only [List.nil_append] at NO
    k_steps
    have nxL : h.objs.size ≠ L := Nat.ne_of_gt ss.ns.lt
    have hDuL : @LT.lt Nat _ (L + 3) h.objs.size := by obtain ⟨o, e, _⟩ := ss.c 2 _ rfl; exact Heap.lt_size e
    have nx0 : s.heap.get? h.objs.size = none := none_of ss.k (Heap.get?_none_of_le (Nat.le_refl _))
    have nTD : Tt ≠ h.objs.size := by obtain ⟨o, e, _⟩ := l; exact Nat.ne_of_lt (Heap.lt_size e)
    have nTL : Tt ≠ L := fun q => by
      obtain ⟨o, e, _, n, d⟩ := l
      obtain ⟨o', es, ep, e', d', _⟩ := ss.ns
      rw [q, e'] at e; cases e; rw [d'] at d; cases d
    refine Stop.mk (wpAny_newObj_type (wpAny_storeName_local rfl (ss.stays (fun b o e => Heap.get?_push_of_some _ e)).ns (fun h5 hn5 hs5 => ?_) rfl))
    have ss5 := (ss.stays (fun b o e => Heap.get?_push_of_some _ e)).frame hs5 hn5 eL
    have l5 := (l.push _).extBut hs5.extBut nTL
    have eDu := hs5.extBut _ _ nxL (Heap.get?_push_size _ rfl)
    dsimp only at eDu ss5 ⊢
    generalize h.objs.size = Du at nxL nx0 nTD hDuL eDu ss5 ⊢
    obtain ⟨m5, hm5, ht5, ho5, hd5⟩ : ∃ m, SS [] s.heap L h5 m [mk, none, none] ∧ m (Str.ofString "totals") = some (.ref Tt) ∧ m (Str.ofString "order") = some (.ref b) ∧ m (Str.ofString "due") = some (.ref Du) := ⟨_, ss5, (if_neg (by decide)).trans e1, (if_neg (by decide)).trans e2, if_pos rfl⟩
    clear KX T FO NO cov kb ss5 hn5 hs5
    obtain ⟨base, tail, o1, o2, o3, KX, T, FO, NO, d1, d2, d3, cov, kb⟩ := SS.open3 (hm5) [] G eL (fun _ h => nomatch h)
    simp only [List.nil_append] at NO
    k_steps
    refine Stop.mk (wpAny_For (stopQ ?_))
    k_steps
    rename Fr _ _ _ _ => FZ
    rename News _ _ _ _ => NZ
    obtain ⟨ss6, r6⟩ := cov _ _ _ FZ NZ (by (intro p hp; first | exact hp | exact .tail _ hp | exact .tail _ (.tail _ hp) | exact .tail _ (.tail _ (.tail _ hp)) | exact .tail _ (.tail _ (.tail _ (.tail _ hp)))))
    rename_i h6 _ _ _ _ rg _
    refine Stop.mk ?_
    dsimp only at rg ⊢
    have l6 := r6.isList hm5.ns l5 (fun q => nomatch q)
    have eDu6 := r6 _ _ eDu nxL (fun q => nomatch q)
    have hI6 : @LT.lt Nat _ (L + 3) h6.objs.size := by
      obtain ⟨o, e, _⟩ := ss6.c 2 _ rfl
      exact Heap.lt_size e
    clear KX T FZ NZ cov kb r6
    refine for_src (Src.range (n := 6) rg (by decide)) hh
      (fun i h => ∃ m ld ls rs n, SS [] s.heap L h m [mk, ld, ls] ∧ m (Str.ofString "totals") = some (.ref Tt) ∧ m (Str.ofString "order") = some (.ref b) ∧ m (Str.ofString "due") = some (.ref Du) ∧ h.IsList Tt (List.toArray zs) ∧
        h.get? Du = some { cls := .type "list", data := .seq rs n } ∧ Paired (pairAt (hideAll h [Du])) rs.toList (dueL (totL Builtin.bitXor marks) order i)) _ rfl
      (fun oI => ?_) ?_ ?_ ?_ ?_
    · exact ⟨m5, none, none, #[], 0, ss6.stays fun b o e => Heap.get?_push_of_some _ e, ht5, ho5, hd5, l6.push _, Heap.get?_push_of_some _ eDu6, .nil⟩
    · rintro i h h' o ⟨m, ld, ls, rs, n, ss, f1, f2, f3, l, eD, pr⟩ e ⟨y, d⟩ k
      have nl : ∀ a xs, h.IsList a xs → a ≠ h6.objs.size := fun a xs ⟨ol, el, hc, n, hd⟩ q => by rw [q, e] at el; cases el; rw [d] at hd; cases hd
      have keepL : ∀ a xs, h.IsList a xs → h'.IsList a xs := fun a xs l => let ⟨ol, el, r⟩ := l; ⟨ol, k _ _ (nl _ _ l) el, r⟩
      refine ⟨m, ld, ls, rs, n, ss.but k eL hI6, f1, f2, f3, keepL _ _ l, k _ _ (nl _ _ ⟨_, eD, rfl, _, rfl⟩) eD, pr.mono fun a q hq => ?_⟩
      obtain ⟨e, t, dd, zs, ea, l1, l2, i⟩ := hq
      have up : ∀ a xs, (hideAll h [Du]).IsList a xs → (hideAll h' [Du]).IsList a xs := fun a xs l => by
        obtain ⟨ol, el, r⟩ := l
        have hc : a ∉ [Du] := fun q => by rw [hideAll_none _ q] at el; cases el
        exact ⟨ol, hideAll_get _ (k _ _ (nl a xs ⟨ol, of_hideAll _ el, r⟩) (of_hideAll _ el)) hc, r⟩
      exact ⟨e, t, dd, zs, ea, up _ _ l1, up _ _ l2, i⟩
    · intro ax its q l
      exfalso
      cases q
      obtain ⟨o, e, hc, _⟩ := l
      have rg' : h6.get? h5.objs.size = some _ := rg
      rw [rg'] at e; cases e; exact absurd hc (by show Value.type "range" ≠ Value.type "list"; decide)
    · rintro i v h tk oI hi ⟨_, t, rfl⟩ ⟨m, ld, ls, rs, n, ss, f1, f2, f3, l, eD, pr⟩ eI dI
      generalize hII : h6.objs.size = I at *
      refine wpAny_assign_Name (wpAny_storeName_cell rfl rfl rfl (ss.c 1 _ rfl) fun h7 hc7 hs7 => ?_)
      have ss7 : SS [] s.heap L h7 m [mk, some (.int (i : Int) t), ls] := ss.set (i := 1) (by show 1 < 3; decide) (fun b o n e => hs7.extBut b o n e) hc7 eL
      have k7 : Keep' [] h h7 := .cell (fun b o n e => hs7.extBut b o n e) (ss.c 1 _ rfl)
      have l7 := k7.isList l (fun q => nomatch q)
      have eI7 : h7.get? I = some oI := hs7.extBut _ _ (by show @Ne Nat I (L + 2); omega) eI
      obtain ⟨base, tail, o1, o2, o3, KX, T, FO, NO, d1, d2, d3, cov, kb⟩ := SS.open3 (ss7) [] G eL (fun _ h => nomatch h)
      simp only [List.nil_append] at NO
      refine stopQ ?_
      k_steps
      refine Stop.mk (comp_as (fl := []) (fun v => match v with | .int n _ => decide ((2 : Int) ^ i ≤ n) && decide (n < (2 : Int) ^ (i + 1)) | _ => false) (fun _ v y => y = v) (fun _ _ _ _ _ h => h) hh rfl rfl (by decide) rfl (by decide) rfl rfl rfl (stopQ ?_))
      k_steps
      refine Stop.mk ?_
      dsimp only
      refine ⟨_, _, _, Src.list (its := zs) l7 (by have := z.length; have := h64 marks.length; rw [List.take_length] at this; omega), fms_nil, ss7.ns, ?_, ?_⟩
      · intro ex C j v h8 tk m2 E' hex hC0 hP hnC hm kp
        obtain ⟨nj, tj, rfl, _⟩ := intsAre_mem z (List.mem_of_getElem? hP)
        have ss8 := ss7.stays kp.nil
        obtain ⟨oC, eC, hoC⟩ := LCg.ns_obj hnC
        have nCL : C ≠ L := fun q => by
          obtain ⟨o, _, _, e, _⟩ := ss7.ns
          rw [← q, hC0] at e; cases e
        clear KX T FO NO cov kb
        obtain ⟨base, tail, o1, o2, o3, KX, T, FO, NO, d1, d2, d3, cov, kb⟩ := SS.open3 (ss8) [(C, oC)] G eL (by
          intro q hq
          cases List.mem_singleton.mp hq
          exact ⟨eC, nCL, none_of ss7.k hC0⟩)
        simp only [List.nil_append, List.cons_append] at NO
        refine wpAny_tests_one (stopQ ?_)
        have ei : (2 : Int) ^ ((i : Int)).toNat = 2 ^ i := by rw [Int.toNat_natCast]
        have ei1 : (2 : Int) ^ ((i : Int) + 1).toNat = 2 ^ (i + 1) := by rw [show (i : Int) + 1 = ((i + 1 : Nat) : Int) from by push_cast; rfl, Int.toNat_natCast]
        k_steps
        · rename_i hlo
          rw [ei] at hlo
          refine Stop.mk ⟨?_, h8, _, rfl, .refl, fun _ E'' => stopQ ?_⟩
          · show decide (nj < 2 ^ ((i : Int) + 1).toNat) = (decide ((2 : Int) ^ i ≤ nj) && decide (nj < (2 : Int) ^ (i + 1)))
            rw [ei1, decide_eq_true hlo, Bool.true_and]
          k_steps
          exact Stop.mk ⟨h8, _, rfl, .refl, rfl⟩
        · rename_i hlo
          rw [ei] at hlo
          refine Stop.mk ⟨?_, h8, _, rfl, .refl, fun hp => ?_⟩
          · show false = (decide ((2 : Int) ^ i ≤ nj) && decide (nj < (2 : Int) ^ (i + 1)))
            rw [decide_eq_false hlo, Bool.false_and]
          · have hp' : (decide ((2 : Int) ^ i ≤ nj) && decide (nj < (2 : Int) ^ (i + 1))) = true := hp
            rw [decide_eq_false hlo, Bool.false_and] at hp'
            cases hp'
      · intro D hm h8 tk ys vs9 hD hpl hlen9 hP9 hpa kpm hk8 hn8
        obtain rfl := srcVals hlen9 hP9
        have hys := compInts (pz := fun n => decide ((2 : Int) ^ i ≤ n) && decide (n < (2 : Int) ^ (i + 1))) (f := fun n => n) (fun _ _ => rfl) (fun n t y _ h => ⟨t, h⟩) z hpa
        rw [List.map_id'' (fun _ => rfl)] at hys
        have hys' : IntsAre ys.toList (ledL (totL Builtin.bitXor marks) i) := hys
        have ss8 := (ss7.stays kpm.nil).frame1 hk8 hn8 eL
        have nDL : D ≠ L := fun q => by
          obtain ⟨_, _, _, e, hd, _⟩ := (ss7.stays kpm.nil).ns
          obtain ⟨n, e'⟩ := hpl
          rw [← q, e'] at e; cases e
          cases hd
        have hD8 : h8.IsList D (List.toArray ys.toList) := by
          obtain ⟨n, e⟩ := hpl
          rw [Array.toArray_toList]
          exact ⟨_, hk8 _ _ nDL e, rfl, n, rfl⟩
        have g1 := (if_neg (by decide : ¬ Str.ofString "totals" = Str.ofString "led")).trans f1 (a := if Str.ofString "totals" = Str.ofString "led" then some (Value.ref D) else m (Str.ofString "totals"))
        obtain ⟨m8, hm8, e81, e82, e83, e84⟩ : ∃ m, SS [] s.heap L h8 m [mk, some (.int (i : Int) t), ls] ∧ m (Str.ofString "totals") = some (.ref Tt) ∧ m (Str.ofString "order") = some (.ref b) ∧ m (Str.ofString "due") = some (.ref Du) ∧ m (Str.ofString "led") = some (.ref D) :=
          ⟨_, ss8, (if_neg (by decide)).trans f1, (if_neg (by decide)).trans f2, (if_neg (by decide)).trans f3, if_pos rfl⟩
        -- what is kept from h7 on
        have kk8 : ∀ b o, b ≠ L → h7.get? b = some o → h8.get? b = some o := fun b o n e => hk8 b o n (kpm.nil b o e)
        have kD8 : Keep' [] h h8 := k7.trans (.frame kk8 ss7.ns)
        have eD8 := kD8 _ _ eD (seqNot rfl).1 (seqNot rfl).2 (fun q => nomatch q)
        have l8 := kD8.isList l (fun q => nomatch q)
        have pr8 : Paired (pairAt (hideAll h8 [Du])) rs.toList (dueL (totL Builtin.bitXor marks) order i) := pr.mono fun a q ⟨e, t, d, zs, ea, l1, l2, ii⟩ => by
          have kh := kD8.hide (ex' := [Du]) fun _ h => nomatch h
          exact ⟨e, t, d, zs, ea, kh.isList l1 (fun q => nomatch q), kh.isList l2 (fun q => nomatch q), ii⟩
        have nIL : @Ne Nat I L := by omega
        have eI8 : h8.get? I = some oI := kk8 _ _ nIL eI7
        clear KX T FO NO cov kb ss8 hk8 hn8 g1 kpm hpl pr eD l l7 ss7 k7 hs7 hc7
        obtain ⟨base, tail, o1, o2, o3, KX, T, FO, NO, d1, d2, d3, cov, kb⟩ := SS.open3 (hm8) [] G eL (fun _ h => nomatch h)
        simp only [List.nil_append] at NO
        refine stopQ ?_
        k_steps
        refine Stop.mk (wpAny_newObj_type ?_)
        have up8 : ∀ x : Obj, h8.StaysIn (h8.push x) := fun x b o e => Heap.get?_push_of_some _ e
        refine ne_nil (hD8.push _) ⟨_, Heap.get?_push_size _ rfl, rfl, _, rfl⟩ hys' (by show A.units + 3 < 9500; omega) ?_
        try clear KX
        try clear T
        try clear FO
        try clear NO
        try clear cov kb
        obtain ⟨base, tail, o1, o2, o3, KX, T, FO, NO, d1, d2, d3, cov, kb⟩ := SS.open3 ((hm8.stays (up8 { cls := .type "list", data := .seq (List.toArray []) }))) [] G eL (fun _ h => nomatch h)
        simp only [List.nil_append] at NO
        k_steps
        · rename_i hne
          rename Fr _ _ _ _ => FZ
          rename News _ _ _ _ => NZ
          obtain ⟨ss9, r9⟩ := cov _ _ _ FZ NZ (by (intro p hp; first | exact hp | exact .tail _ hp | exact .tail _ (.tail _ hp) | exact .tail _ (.tail _ (.tail _ hp)) | exact .tail _ (.tail _ (.tail _ (.tail _ hp)))))
          refine Stop.mk (min_list_N hh FZ NZ (hD8.push _) hys' (by
            cases q : ledL (totL Builtin.bitXor marks) i with
            | nil => exact absurd q hne
            | cons _ _ => exact Nat.succ_pos _) fun h9 mn t9 tk9 F9 N9 hmn hle => ?_)
          have hmin : mn = minL (ledL (totL Builtin.bitXor marks) i) := minL_of hmn hle
          obtain ⟨ss10, r10⟩ := cov _ _ _ F9 N9 (by (intro p hp; first | exact hp | exact .tail _ hp | exact .tail _ (.tail _ hp) | exact .tail _ (.tail _ (.tail _ hp)) | exact .tail _ (.tail _ (.tail _ (.tail _ hp)))))
          have kk9 : Keep' [] h8 h9 := Keep'.trans (.stays (up8 _)) (.rest r10 (hm8.stays (up8 _)).ns)
          refine Stop.mk (wpAny_storeName_cell rfl rfl rfl (ss10.c 2 _ rfl) fun h11 hc11 hs11 => ?_)
          have ss11 : SS [] s.heap L h11 m8 [mk, some (.int (i : Int) t), some (.int mn t9)] := ss10.set (i := 2) (by show 2 < 3; decide) (fun b o n e => hs11.extBut b o n e) hc11 eL
          have k11 : Keep' [] h8 h11 := kk9.trans (.cell (fun b o n e => hs11.extBut b o n e) (ss10.c 2 _ rfl))
          obtain ⟨yI, dI'⟩ := dI
          have eD11 := k11 _ _ eD8 (seqNot rfl).1 (seqNot rfl).2 (fun q => nomatch q)
          have l11 := k11.isList l8 (fun q => nomatch q)
          have pr11 := pairsKeep k11 pr8
          have eI11 := k11 _ _ eI8 (fun _ _ q => by rw [dI'] at q; cases q) (fun _ q => by rw [dI'] at q; cases q) (fun q => nomatch q)
          clear KX T FZ NZ cov kb F9 N9 ss9 r9 ss10 r10 hc11 hs11 kk9 k11 eI8 eD8 l8 pr8
          obtain ⟨base, tail, o1, o2, o3, KX, T, FO, NO, d1, d2, d3, cov, kb⟩ := SS.open3 (ss11) [] G eL (fun _ h => nomatch h)
          simp only [List.nil_append] at NO
          k_steps
          refine Stop.mk (Calls.getMethod_list_append eD11 rfl rfl ?_)
          k_steps
          refine Stop.mk (comp_ev (fl := []) (fun v => match v with | .int n _ => (mn.fdiv (2 ^ n.toNat)).fmod 2 == 0 | _ => false) (fun _ v y => y = v) (fun _ _ _ _ _ h => h) hh rfl (by decide) rfl (by decide) rfl (stopQ ?_))
          k_steps
          refine Stop.mk ?_
          dsimp only
          have hwl := hord.length
          refine ⟨_, _, Src.list (its := ws) (ss11.k.isList hb) (by omega), fms_nil, ?_, ?_⟩
          · intro ex C j v h12 tk m2 E' hex hC0 hP hnC hm kp
            obtain ⟨nj, tj, rfl, hmem⟩ := intsAre_mem hord (List.mem_of_getElem? hP)
            obtain ⟨hj0, hj6⟩ := hoz nj hmem
            have ss12 := ss11.stays kp.nil
            obtain ⟨oC, eC, hoC⟩ := LCg.ns_obj hnC
            have nCL : C ≠ L := fun q => by
              obtain ⟨o, _, _, e, _⟩ := ss11.ns
              rw [← q, hC0] at e; cases e
            clear KX T FO NO cov kb
            obtain ⟨base, tail, o1, o2, o3, KX, T, FO, NO, d1, d2, d3, cov, kb⟩ := SS.open3 (ss12) [(C, oC)] G eL (by
              intro q hq
              cases List.mem_singleton.mp hq
              exact ⟨eC, nCL, none_of ss11.k hC0⟩)
            simp only [List.nil_append, List.cons_append] at NO
            refine wpAny_tests_one (stopQ ?_)
            k_steps
            refine Stop.mk ⟨rfl, h12, _, rfl, .refl, fun _ E'' => stopQ ?_⟩
            k_steps
            exact Stop.mk ⟨h12, _, rfl, .refl, rfl⟩
          · intro D2 hm2 tk zs2 vs12 hD2 hpl2 hlen12 hP12 hpa2 kp2
            obtain rfl := srcVals hlen12 hP12
            have hzs := compInts (pz := fun n => (mn.fdiv (2 ^ n.toNat)).fmod 2 == 0) (f := fun n => n) (fun _ _ => rfl) (fun n t y _ h => ⟨t, h⟩) hord hpa2
            rw [List.map_id'' (fun _ => rfl)] at hzs
            have hzs' : IntsAre zs2.toList (restL order mn) := hzs
            k_steps
            refine Stop.mk (wpAny_newObj_type ?_)
            k_steps
            have up13 : ∀ x : Obj, h11.StaysIn (hm2.push x) := fun x b o e => Heap.get?_push_of_some _ (kp2.nil b o e)
            have hrl : rs.size ≤ i := by
              have q1 := pr11.length
              have q2 := dueL_len (totL Builtin.bitXor marks) order i
              rw [Array.length_toList] at q1
              omega
            have nED : hm2.objs.size ≠ Du := Nat.ne_of_gt (Heap.lt_size (kp2.nil _ _ eD11))
            have nDD : D2 ≠ Du := fun q => by rw [q, eD11] at hD2; cases hD2
            have nID : I ≠ Du := fun q => by
              rw [q, eD11] at eI11
              injection eI11 with e
              rw [← e] at dI'; cases dI'
            refine Stop.mk (append_at (its := rs) (n := n) (up13 _ _ _ eD11) (fun h14 hs14 e14 => ?_) (by rw [sizeLine_eq]; omega))
            k_steps
            refine Stop.mk (Stop.mk ⟨.inl rfl, h14, _, rfl, ⟨m8, _, _, rs.push _, n + 1, (ss11.stays (up13 _)).but (I := Du) (fun b o n e => hs14.extBut b o n e) eL hDuL, e81, e82, e83,
              (isList_any (fun b o e => ⟨o.slots, up13 _ b o e⟩) l11).extBut hs14.extBut nTD, e14, ?_⟩, hs14.extBut _ _ nID (up13 _ _ _ eI11)⟩)
            rw [Array.toList_push]
            show Paired _ _ (dueL (totL Builtin.bitXor marks) order i ++ (if ledL (totL Builtin.bitXor marks) i = [] then [] else [((i : Int), restL order (minL (ledL (totL Builtin.bitXor marks) i)))]))
            rw [if_neg hne, ← hmin]
            refine Paired.snoc (pairsBut (fun b o n e => hs14.extBut b o n e) (pairsKeep (.stays (up13 _)) pr11)) ⟨hm2.objs.size, t, D2, zs2.toList, rfl, ⟨_, hideAll_get _ (hs14.extBut _ _ nED (Heap.get?_push_size _ rfl)) (by simpa using nED), rfl, _, rfl⟩, ?_, hzs'⟩
            obtain ⟨n2, e2'⟩ := hpl2
            rw [Array.toArray_toList]
            exact ⟨_, hideAll_get _ (hs14.extBut _ _ nDD (Heap.get?_push_of_some _ e2')) (by simpa using nDD), rfl, n2, rfl⟩
        · rename_i hne
          have hled : ledL (totL Builtin.bitXor marks) i = [] := Classical.not_not.mp hne
          refine Stop.mk (Stop.mk ⟨.inl rfl, _, _, rfl, ⟨m8, _, _, rs, n, hm8.stays (up8 _), e81, e82, e83, l8.push _, up8 _ _ _ eD8, ?_⟩, up8 _ _ _ eI8⟩)
          show Paired _ rs.toList (dueL (totL Builtin.bitXor marks) order i ++ (if ledL (totL Builtin.bitXor marks) i = [] then [] else [((i : Int), restL order (minL (ledL (totL Builtin.bitXor marks) i)))]))
          rw [if_pos hled, List.append_nil]
          exact pairsKeep (.stays (up8 _)) pr8
    · rintro h tk ⟨m, ld, ls, rs, n, ss, f1, f2, f3, l, eD, pr⟩
      dsimp only
      obtain ⟨base, tail, o1, o2, o3, KX, T, FO, NO, d1, d2, d3, cov, kb⟩ := SS.open3 (ss) [] G eL (fun _ h => nomatch h)
      simp only [List.nil_append] at NO
      k_steps
      refine Stop.mk (hQ h _ Du rs.toList ss.k.nil nx0 ⟨_, eD, rfl, n, by simp⟩ (pr.mono fun _ _ hq => hq.kp (fl := []) Kp.unhide))
end Mine

set_option Elab.async false
namespace Mine
abbrev V := BitVec 6
/-- c is the greatest column of v -/
def IsTop (v : V) (c : Nat) : Prop := v.getLsbD c = true ∧ ∀ d, c < d → v.getLsbD d = false
def topV (v : V) : Nat := ((List.range 6).filter fun c => v.getLsbD c).foldl max 0
def lin : List (Nat × V) → V → V
  | [], _ => 0
  | p :: L, t => (if t.getLsbD p.1 then p.2 else 0) ^^^ lin L t
def redV (L : List (Nat × V)) (x : V) : V := L.foldl (fun left p => if left.getLsbD p.1 then left ^^^ p.2 else left) x
def clearV (left : V) (p : Nat × V) : Nat × V := (p.1, if p.2.getLsbD (topV left) then p.2 ^^^ left else p.2)
def stepV (L : List (Nat × V)) (x : V) : List (Nat × V) :=
  let left := redV L x
  if left = 0 then L else L.map (clearV left) ++ [(topV left, left)]
def totV (tot : List V) (x : V) : List V := if x ∈ tot then tot else tot ++ tot.map (x ^^^ ·)
theorem topV_spec : ∀ v : V, v ≠ 0 → topV v < 6 ∧ v.getLsbD (topV v) = true ∧ ∀ d, d < 6 → topV v < d → v.getLsbD d = false := by decide +kernel
theorem isTop_topV {v : V} (h : v ≠ 0) : IsTop v (topV v) := by
  obtain ⟨_, h1, h2⟩ := topV_spec v h
  refine ⟨h1, fun d hd => ?_⟩
  by_cases q : d < 6
  · exact h2 d q hd
  · exact BitVec.getLsbD_of_ge v d (by omega)
theorem IsTop.uniq {v : V} {c d : Nat} (x : IsTop v c) (y : IsTop v d) : c = d := by
  rcases Nat.lt_trichotomy c d with h | h | h
  · have := x.2 d h; rw [y.1] at this; cases this
  · exact h
  · have := y.2 c h; rw [x.1] at this; cases this
theorem IsTop.lt {v : V} {c : Nat} (x : IsTop v c) : c < 6 := by
  rcases Nat.lt_or_ge c 6 with h | h
  · exact h
  · have := x.1; rw [BitVec.getLsbD_of_ge v c h] at this; cases this
theorem lin_xor : ∀ (L : List (Nat × V)) (a b : V), lin L (a ^^^ b) = lin L a ^^^ lin L b
  | [], a, b => by simp [lin]
  | p :: L, a, b => by
    unfold lin
    rw [lin_xor L a b, BitVec.getLsbD_xor]
    apply BitVec.eq_of_getLsbD_eq
    intro i _
    cases a.getLsbD p.1 <;> cases b.getLsbD p.1 <;> simp [BitVec.getLsbD_xor] <;> cases p.2.getLsbD i <;> cases (lin L a).getLsbD i <;> cases (lin L b).getLsbD i <;> rfl
theorem lin_zero : ∀ (L : List (Nat × V)), lin L 0 = 0
  | [] => rfl
  | p :: L => by unfold lin; rw [lin_zero L]; simp
/-- reduced: the leads -/
structure Red (L : List (Nat × V)) : Prop where
  top : ∀ p ∈ L, IsTop p.2 p.1
  off : L.Pairwise fun p q => p.2.getLsbD q.1 = false ∧ q.2.getLsbD p.1 = false

theorem bit_ite (c : Bool) (v : V) (i : Nat) : (if c then v else 0 : V).getLsbD i = (c && v.getLsbD i) := by cases c <;> simp
/-- a lead's bit of a sum: the lead's own -/
theorem lin_bit : ∀ {L : List (Nat × V)}, Red L → ∀ (t : V), ∀ p ∈ L, (lin L t).getLsbD p.1 = t.getLsbD p.1
  | [], _, _, _, h => nomatch h
  | q :: L, r, t, p, h => by
    have r' : Red L := ⟨fun p hp => r.top p (.tail _ hp), (List.pairwise_cons.mp r.off).2⟩
    have h0 := (List.pairwise_cons.mp r.off).1
    unfold lin
    rw [BitVec.getLsbD_xor, bit_ite]
    rcases List.mem_cons.mp h with e | h
    · subst e
      have z : ∀ (L' : List (Nat × V)), (∀ a ∈ L', a.2.getLsbD p.1 = false) → (lin L' t).getLsbD p.1 = false := by
        intro L'
        induction L' with
        | nil => intro _; simp [lin]
        | cons a L' ih =>
          intro ha
          unfold lin
          rw [BitVec.getLsbD_xor, bit_ite, ha a (.head _), ih fun b hb => ha b (.tail _ hb)]
          simp
      rw [z L fun a ha => (h0 a ha).2, (r.top p (.head _)).1]
      simp
    · rw [lin_bit r' t p h, (h0 p h).1]
      simp
/-- drawn one by one: the same sum -/
theorem redV_eq : ∀ {L : List (Nat × V)}, Red L → ∀ x, redV L x = x ^^^ lin L x := by
  intro L
  suffices H : ∀ (L : List (Nat × V)), Red L → ∀ x y : V, (∀ p ∈ L, y.getLsbD p.1 = x.getLsbD p.1) → L.foldl (fun left p => if left.getLsbD p.1 then left ^^^ p.2 else left) y = y ^^^ lin L x from fun r x => H L r x x fun _ _ => rfl
  intro L
  induction L with
  | nil => intro _ x y _; simp [lin]
  | cons q L ih =>
    intro r x y hy
    have r' : Red L := ⟨fun p hp => r.top p (.tail _ hp), (List.pairwise_cons.mp r.off).2⟩
    have h0 := (List.pairwise_cons.mp r.off).1
    show L.foldl _ (if y.getLsbD q.1 then y ^^^ q.2 else y) = y ^^^ ((if x.getLsbD q.1 then q.2 else 0) ^^^ lin L x)
    rw [hy q (.head _)]
    cases x.getLsbD q.1 with
    | false =>
      simp only [Bool.false_eq_true, if_false]
      rw [ih r' x y fun p hp => hy p (.tail _ hp)]
      simp
    | true =>
      simp only [if_true]
      rw [ih r' x (y ^^^ q.2) fun p hp => by rw [BitVec.getLsbD_xor, (h0 p hp).1, hy p (.tail _ hp)]; simp, BitVec.xor_assoc]
/-- the common state -/
structure Inv (L : List (Nat × V)) (tot : List V) : Prop where
  red : Red L
  mem : ∀ p ∈ L, p.2 ∈ tot
  span : ∀ t ∈ tot, lin L t = t
  zero : (0 : V) ∈ tot
  closed : ∀ a ∈ tot, ∀ b ∈ tot, a ^^^ b ∈ tot
  nodup : tot.Nodup
theorem Inv.start : Inv [] [0] where
  red := ⟨fun _ h => (nomatch h), List.Pairwise.nil⟩
  mem := fun _ h => nomatch h
  span := fun t h => by rw [List.mem_singleton.mp h]; rfl
  zero := List.mem_singleton.mpr rfl
  closed := fun a ha b hb => by rw [List.mem_singleton.mp ha, List.mem_singleton.mp hb]; exact List.mem_singleton.mpr (by decide)
  nodup := List.pairwise_singleton _ _
theorem lin_mem {tot : List V} (zero : (0 : V) ∈ tot) (closed : ∀ a ∈ tot, ∀ b ∈ tot, a ^^^ b ∈ tot) : ∀ {L : List (Nat × V)}, (∀ p ∈ L, p.2 ∈ tot) → ∀ t, lin L t ∈ tot
  | [], _, _ => zero
  | p :: L, h, t => by
    unfold lin
    refine closed _ ?_ _ (lin_mem zero closed (fun q hq => h q (.tail _ hq)) t)
    cases t.getLsbD p.1 with
    | false => exact zero
    | true => exact h p (.head _)
theorem Inv.left_zero {L : List (Nat × V)} {tot : List V} (i : Inv L tot) (x : V) : redV L x = 0 ↔ x ∈ tot := by
  rw [redV_eq i.red]
  constructor
  · intro h
    have : x = lin L x := by
      have := congrArg (· ^^^ lin L x) h
      simpa [BitVec.xor_assoc] using this
    rw [this]; exact lin_mem i.zero i.closed i.mem x
  · intro h; rw [i.span x h]; simp

theorem lin_append : ∀ (A B : List (Nat × V)) (t : V), lin (A ++ B) t = lin A t ^^^ lin B t
  | [], B, t => by simp [lin]
  | p :: A, B, t => by
    show (if t.getLsbD p.1 then p.2 else 0) ^^^ lin (A ++ B) t = _
    rw [lin_append A B t, ← BitVec.xor_assoc]; rfl
theorem lin_clear (left : V) : ∀ (L : List (Nat × V)) (t : V), lin (L.map (clearV left)) t = lin L t ^^^ (if (lin L t).getLsbD (topV left) then left else 0)
  | [], t => by simp [lin]
  | p :: L, t => by
    show (if t.getLsbD p.1 then (if p.2.getLsbD (topV left) then p.2 ^^^ left else p.2) else 0) ^^^ lin (L.map (clearV left)) t = _
    rw [lin_clear left L t, show lin (p :: L) t = (if t.getLsbD p.1 then p.2 else 0) ^^^ lin L t from rfl]
    generalize lin L t = y
    rw [BitVec.getLsbD_xor, bit_ite]
    apply BitVec.eq_of_getLsbD_eq
    intro i _
    cases t.getLsbD p.1 <;> cases p.2.getLsbD (topV left) <;> cases y.getLsbD (topV left) <;> simp [BitVec.getLsbD_xor] <;> cases p.2.getLsbD i <;> cases y.getLsbD i <;> cases left.getLsbD i <;> rfl
theorem Inv.step {L : List (Nat × V)} {tot : List V} (i : Inv L tot) (x : V) : Inv (stepV L x) (totV tot x) := by
  unfold stepV totV
  dsimp only
  by_cases hx : x ∈ tot
  · rw [if_pos hx, if_pos ((i.left_zero x).mpr hx)]; exact i
  · rw [if_neg hx, if_neg (fun h => hx ((i.left_zero x).mp h))]
    have hne : redV L x ≠ 0 := fun h => hx ((i.left_zero x).mp h)
    have hleft := redV_eq i.red x
    generalize redV L x = left at hne hleft
    have htop := isTop_topV hne
    have hb : ∀ p ∈ L, left.getLsbD p.1 = false := fun p hp => by
      rw [hleft, BitVec.getLsbD_xor, lin_bit i.red x p hp]; simp
    have hln := lin_mem i.zero i.closed i.mem x
    have inl : ∀ t ∈ tot, t ∈ tot ++ tot.map (x ^^^ ·) := fun t h => List.mem_append_left _ h
    have inr : ∀ t ∈ tot, x ^^^ t ∈ tot ++ tot.map (x ^^^ ·) := fun t h => List.mem_append_right _ (List.mem_map_of_mem h)
    have hlm : left ∈ tot ++ tot.map (x ^^^ ·) := hleft ▸ inr _ hln
    have closed : ∀ a ∈ tot ++ tot.map (x ^^^ ·), ∀ b ∈ tot ++ tot.map (x ^^^ ·), a ^^^ b ∈ tot ++ tot.map (x ^^^ ·) := by
      intro a ha b hb
      rcases List.mem_append.mp ha with ha | ha <;> rcases List.mem_append.mp hb with hb | hb
      · exact inl _ (i.closed a ha b hb)
      · obtain ⟨b', hb', rfl⟩ := List.mem_map.mp hb
        rw [show a ^^^ (x ^^^ b') = x ^^^ (a ^^^ b') from by rw [← BitVec.xor_assoc, BitVec.xor_comm a x, BitVec.xor_assoc]]
        exact inr _ (i.closed a ha b' hb')
      · obtain ⟨a', ha', rfl⟩ := List.mem_map.mp ha
        rw [BitVec.xor_assoc]
        exact inr _ (i.closed a' ha' b hb)
      · obtain ⟨a', ha', rfl⟩ := List.mem_map.mp ha
        obtain ⟨b', hb', rfl⟩ := List.mem_map.mp hb
        rw [show (x ^^^ a') ^^^ (x ^^^ b') = a' ^^^ b' from by
          apply BitVec.eq_of_getLsbD_eq; intro j _
          simp only [BitVec.getLsbD_xor]
          cases x.getLsbD j <;> cases a'.getLsbD j <;> cases b'.getLsbD j <;> rfl]
        exact inl _ (i.closed a' ha' b' hb')
    refine ⟨⟨?_, ?_⟩, ?_, ?_, inl _ i.zero, closed, ?_⟩
    · intro p hp
      rcases List.mem_append.mp hp with hp | hp
      · obtain ⟨q, hq, rfl⟩ := List.mem_map.mp hp
        have tq := i.red.top q hq
        show IsTop (if q.2.getLsbD (topV left) then q.2 ^^^ left else q.2) q.1
        cases e : q.2.getLsbD (topV left) with
        | false => simpa using tq
        | true =>
          simp only [if_true]
          have hlt : topV left < q.1 := by
            rcases Nat.lt_trichotomy (topV left) q.1 with h | h | h
            · exact h
            · have := hb q hq; rw [← h, htop.1] at this; cases this
            · have := tq.2 _ h; rw [e] at this; cases this
          refine ⟨by rw [BitVec.getLsbD_xor, tq.1, hb q hq]; rfl, fun d hd => ?_⟩
          rw [BitVec.getLsbD_xor, tq.2 d hd, htop.2 d (Nat.lt_trans hlt hd)]; rfl
      · rw [List.mem_singleton.mp hp]; exact htop
    · have cb : ∀ q : Nat × V, ∀ c, left.getLsbD c = false → (clearV left q).2.getLsbD c = q.2.getLsbD c := fun q c hc => by
        show (if q.2.getLsbD (topV left) then q.2 ^^^ left else q.2).getLsbD c = _
        cases q.2.getLsbD (topV left) <;> simp [BitVec.getLsbD_xor, hc]
      refine List.pairwise_append.mpr ⟨?_, List.pairwise_singleton _ _, ?_⟩
      · rw [List.pairwise_map]
        refine i.red.off.imp_of_mem fun {p q} hp hq h => ⟨?_, ?_⟩
        · show (clearV left p).2.getLsbD q.1 = false
          rw [cb p q.1 (hb q hq)]; exact h.1
        · show (clearV left q).2.getLsbD p.1 = false
          rw [cb q p.1 (hb p hp)]; exact h.2
      · intro p hp q hq
        obtain ⟨p', hp', rfl⟩ := List.mem_map.mp hp
        rw [List.mem_singleton.mp hq]
        refine ⟨?_, hb p' hp'⟩
        show (if p'.2.getLsbD (topV left) then p'.2 ^^^ left else p'.2).getLsbD (topV left) = false
        cases e : p'.2.getLsbD (topV left) <;> simp [BitVec.getLsbD_xor, htop.1, e]
    · intro p hp
      rcases List.mem_append.mp hp with hp | hp
      · obtain ⟨q, hq, rfl⟩ := List.mem_map.mp hp
        show (if q.2.getLsbD (topV left) then q.2 ^^^ left else q.2) ∈ _
        cases q.2.getLsbD (topV left) with
        | false => exact inl _ (i.mem q hq)
        | true => exact closed _ (inl _ (i.mem q hq)) _ hlm
      · rw [List.mem_singleton.mp hp]; exact hlm
    · have hlin : ∀ t, lin (L.map (clearV left) ++ [(topV left, left)]) t = lin L t ^^^ (if (lin L t).getLsbD (topV left) then left else 0) ^^^ (if t.getLsbD (topV left) then left else 0) := fun t => by
        rw [lin_append, lin_clear]
        congr 1
        unfold lin lin
        simp
      have ht : ∀ t ∈ tot, lin (L.map (clearV left) ++ [(topV left, left)]) t = t := fun t h => by
        rw [hlin, i.span t h]
        cases t.getLsbD (topV left) <;> simp [BitVec.xor_assoc]
      have hxx : lin (L.map (clearV left) ++ [(topV left, left)]) x = x := by
        rw [hlin]
        have e : x = left ^^^ lin L x := by rw [hleft, BitVec.xor_assoc]; simp
        have eb : x.getLsbD (topV left) = !(lin L x).getLsbD (topV left) := by
          have := congrArg (·.getLsbD (topV left)) e
          simp only [BitVec.getLsbD_xor, htop.1] at this
          rw [this]; simp
        rw [eb]
        cases (lin L x).getLsbD (topV left) with
        | false => simp; rw [BitVec.xor_comm]; exact e.symm
        | true => simp; rw [BitVec.xor_comm]; exact e.symm
      intro t h
      rcases List.mem_append.mp h with h | h
      · exact ht t h
      · obtain ⟨t', h', rfl⟩ := List.mem_map.mp h
        rw [lin_xor, hxx, ht t' h']
    · refine List.nodup_append.mpr ⟨i.nodup, ?_, ?_⟩
      · refine List.pairwise_map.mpr (i.nodup.imp fun {a b} ne q => ne ?_)
        have := congrArg (x ^^^ ·) q
        simpa [← BitVec.xor_assoc] using this
      · intro a ha b hb q
        obtain ⟨b', hb', rfl⟩ := List.mem_map.mp hb
        apply hx
        have : x = a ^^^ b' := by rw [q, BitVec.xor_assoc]; simp
        rw [this]; exact i.closed a ha b' hb'

theorem lin_bit0 {c : Nat} {t : V} : ∀ {L : List (Nat × V)}, (∀ p ∈ L, t.getLsbD p.1 = true → p.2.getLsbD c = false) → (lin L t).getLsbD c = false
  | [], _ => by simp [lin]
  | p :: L, h => by
    rw [show lin (p :: L) t = (if t.getLsbD p.1 then p.2 else 0) ^^^ lin L t from rfl, BitVec.getLsbD_xor, bit_ite, lin_bit0 fun q hq => h q (.tail _ hq)]
    cases e : t.getLsbD p.1 with
    | false => rfl
    | true => rw [h p (.head _) e]; rfl
theorem Inv.lead {L : List (Nat × V)} {tot : List V} (i : Inv L tot) {t : V} (ht : t ∈ tot) {c : Nat} (h : IsTop t c) : ∃ p ∈ L, p.1 = c := by
  apply Classical.byContradiction
  intro hno
  have hb : (lin L t).getLsbD c = false := lin_bit0 fun p hp e => by
    have hle : p.1 ≤ c := by
      rcases Nat.lt_or_ge c p.1 with z | z
      · have := h.2 p.1 z; rw [e] at this; cases this
      · exact z
    have hlt : p.1 < c := Nat.lt_of_le_of_ne hle fun q => hno ⟨p, hp, q⟩
    exact (i.red.top p hp).2 c hlt
  rw [i.span t ht, h.1] at hb
  cases hb
theorem lt_top : ∀ a b : V, a ≠ b → a.getLsbD (topV (a ^^^ b)) = true → b.toNat < a.toNat := by decide +kernel
theorem red_off {L : List (Nat × V)} (r : Red L) {p q : Nat × V} (hp : p ∈ L) (hq : q ∈ L) (n : p.1 ≠ q.1) : p.2.getLsbD q.1 = false := by
  obtain ⟨a, ha, rfl⟩ := List.getElem_of_mem hp
  obtain ⟨b, hb, rfl⟩ := List.getElem_of_mem hq
  have pw := List.pairwise_iff_getElem.mp r.off
  rcases Nat.lt_trichotomy a b with h | h | h
  · exact (pw a b ha hb h).1
  · subst h; exact absurd rfl n
  · exact (pw b a hb ha h).2
theorem Inv.least {L : List (Nat × V)} {tot : List V} (i : Inv L tot) {p : Nat × V} (hp : p ∈ L) {t : V} (ht : t ∈ tot) (h : IsTop t p.1) : p.2.toNat ≤ t.toNat := by
  by_cases e : t = p.2
  · rw [e]; exact Nat.le_refl _
  · refine Nat.le_of_lt (lt_top t p.2 e ?_)
    have hd : t ^^^ p.2 ≠ 0 := fun z => e (by
      have := congrArg (· ^^^ p.2) z
      simpa [BitVec.xor_assoc] using this)
    have htop := isTop_topV hd
    obtain ⟨q, hq, hqc⟩ := i.lead (i.closed t ht p.2 (i.mem p hp)) htop
    have h1 := htop.1
    rw [BitVec.getLsbD_xor] at h1
    have hn : p.1 ≠ q.1 := fun z => by
      rw [← hqc, ← z, h.1, (i.red.top p hp).1] at h1; cases h1
    have h2 := red_off i.red hp hq hn
    rw [hqc] at h2
    rw [h2] at h1
    simpa using h1
end Mine

set_option Elab.async false
namespace Mine
def vecB (b0 b1 b2 b3 b4 b5 : Bool) : V := BitVec.ofNat 6 (b0.toNat + 2 * b1.toNat + 4 * b2.toNat + 8 * b3.toNat + 16 * b4.toNat + 32 * b5.toNat)
theorem vecB_bit : ∀ b0 b1 b2 b3 b4 b5 : Bool, (vecB b0 b1 b2 b3 b4 b5).getLsbD 0 = b0 ∧ (vecB b0 b1 b2 b3 b4 b5).getLsbD 1 = b1 ∧ (vecB b0 b1 b2 b3 b4 b5).getLsbD 2 = b2 ∧ (vecB b0 b1 b2 b3 b4 b5).getLsbD 3 = b3 ∧
    (vecB b0 b1 b2 b3 b4 b5).getLsbD 4 = b4 ∧ (vecB b0 b1 b2 b3 b4 b5).getLsbD 5 = b5 := by decide +kernel
/-- a row as a vector -/
def vec (r : List Int) : V := vecB (r.any (· == 0)) (r.any (· == 1)) (r.any (· == 2)) (r.any (· == 3)) (r.any (· == 4)) (r.any (· == 5))
theorem vec_bit (r : List Int) : ∀ c, c < 6 → (vec r).getLsbD c = r.any (· == (c : Int)) := by
  intro c hc
  obtain ⟨h0, h1, h2, h3, h4, h5⟩ := vecB_bit (r.any (· == 0)) (r.any (· == 1)) (r.any (· == 2)) (r.any (· == 3)) (r.any (· == 4)) (r.any (· == 5))
  match c, hc with
  | 0, _ => exact h0
  | 1, _ => exact h1
  | 2, _ => exact h2
  | 3, _ => exact h3
  | 4, _ => exact h4
  | 5, _ => exact h5
theorem vec_bitI (r : List Int) {c : Int} (h0 : 0 ≤ c) (h6 : c < 6) : (vec r).getLsbD c.toNat = r.any (· == c) := by
  rw [vec_bit r c.toNat (by omega), Int.toNat_of_nonneg h0]
theorem vec_bothL (a b : List Int) : vec (bothL a b) = vec a ^^^ vec b := by
  apply BitVec.eq_of_getLsbD_eq
  intro i hi
  rw [BitVec.getLsbD_xor, vec_bit _ i hi, vec_bit _ i hi, vec_bit _ i hi, Bool.eq_iff_iff, any_eq, mem_bothL]
  have ea := @any_eq a (i : Int)
  have eb := @any_eq b (i : Int)
  cases ha : a.any (· == (i : Int)) <;> cases hb : b.any (· == (i : Int)) <;> rw [ha] at ea <;> rw [hb] at eb <;> simp_all
theorem vec_zero {r : List Int} (g : Good r) : vec r = 0 ↔ r = [] := by
  constructor
  · intro h
    cases r with
    | nil => rfl
    | cons a r =>
      have := vec_bitI (a :: r) (g.2 a (.head _)).1 (g.2 a (.head _)).2
      rw [h, any_eq.mpr (List.mem_cons_self)] at this
      simp at this
  · rintro rfl; decide
theorem vec_top {r : List Int} (g : Good r) (n : r ≠ []) : topV (vec r) = (maxL r).toNat := by
  have hm := maxL_mem g n
  obtain ⟨h0, h6⟩ := g.2 _ hm
  refine IsTop.uniq (isTop_topV fun h => n ((vec_zero g).mp h)) ⟨?_, fun d hd => ?_⟩
  · rw [vec_bitI r h0 h6]; exact any_eq.mpr hm
  · by_cases q : d < 6
    · rw [vec_bit r d q, ← Bool.not_eq_true, any_eq]
      intro hmem
      have := le_maxL hmem
      omega
    · exact BitVec.getLsbD_of_ge _ d (by omega)
/-- a state of the stand as vectors -/
def alp (p : List Int × List (List Int)) : List (Nat × V) := List.zip (p.1.map Int.toNat) (p.2.map vec)
structure GS (p : List Int × List (List Int)) : Prop where
  len : p.1.length = p.2.length
  rows : ∀ r ∈ p.2, Good r
  leads : ∀ l ∈ p.1, 0 ≤ l ∧ l < 6
theorem redK_vec {p : List Int × List (List Int)} (g : GS p) {row : List Int} (gr : Good row) : ∀ k, k ≤ p.1.length → vec (redK p.1 p.2 row k) = redV ((alp p).take k) (vec row)
  | 0, _ => by simp [redK, redV]
  | k + 1, hk => by
    have ih := redK_vec g gr k (by omega)
    have hk1 : k < p.1.length := by omega
    have hk2 : k < p.2.length := by have := g.len; omega
    have e : (alp p)[k]? = some (p.1[k].toNat, vec p.2[k]) := by
      unfold alp
      rw [List.getElem?_zip_eq_some]
      simp [hk1, hk2]
    rw [List.take_add_one, e]
    unfold redV at ih ⊢
    rw [List.foldl_append, ← ih]
    obtain ⟨l0, l6⟩ := g.leads _ (List.getElem_mem hk1)
    have e1 : p.1.getD k 0 = p.1[k] := by rw [List.getD_eq_getElem?_getD, List.getElem?_eq_getElem hk1]; rfl
    have e2 : p.2.getD k [] = p.2[k] := by rw [List.getD_eq_getElem?_getD, List.getElem?_eq_getElem hk2]; rfl
    show vec (if (redK p.1 p.2 row k).any (· == p.1.getD k 0) then bothL (redK p.1 p.2 row k) (p.2.getD k []) else redK p.1 p.2 row k) = if (vec (redK p.1 p.2 row k)).getLsbD p.1[k].toNat then vec (redK p.1 p.2 row k) ^^^ vec p.2[k] else vec (redK p.1 p.2 row k)
    rw [e1, e2, vec_bitI _ l0 l6]
    split
    · exact vec_bothL _ _
    · rfl

theorem alp_len {p : List Int × List (List Int)} (g : GS p) : (alp p).length = p.1.length := by
  have := g.len
  unfold alp; rw [List.length_zip, List.length_map, List.length_map]; omega
theorem alp_step {p : List Int × List (List Int)} (g : GS p) {row : List Int} (gr : Good row) : alp (stepS p row) = stepV (alp p) (vec row) ∧ GS (stepS p row) := by
  have hred := redK_vec g gr p.1.length (Nat.le_refl _)
  rw [← alp_len g, List.take_length, alp_len g] at hred
  have gl : Good (redK p.1 p.2 row p.1.length) := redK_good gr g.rows _
  have hg2 : ∀ r ∈ (stepS p row).2, Good r := stepS_good gr g.rows
  have hlen : (stepS p row).1.length = (stepS p row).2.length := stepS_len g.len
  unfold stepS stepV at *
  dsimp only at *
  rw [← hred]
  generalize redK p.1 p.2 row p.1.length = left at *
  by_cases h : left = []
  · rw [if_pos h] at *
    rw [if_pos ((vec_zero gl).mpr h)]
    exact ⟨rfl, g⟩
  · rw [if_neg h] at *
    rw [if_neg (fun q => h ((vec_zero gl).mp q))]
    have hm := gl.2 _ (maxL_mem gl h)
    refine ⟨?_, ⟨hlen, hg2, fun l hl => ?_⟩⟩
    · unfold alp
      dsimp only
      rw [List.map_append, List.map_append, List.zip_append (by rw [List.length_map, List.length_map, List.length_map]; exact g.len)]
      congr 1
      · rw [List.map_map]
        have : ∀ (as : List Nat) (bs : List (List Int)), (∀ b ∈ bs, Good b) → List.zip as (bs.map (vec ∘ clear1 left)) = (List.zip as (bs.map vec)).map (clearV (vec left)) := by
          intro as
          induction as with
          | nil => intro bs _; simp
          | cons a as ih =>
            intro bs hb
            cases bs with
            | nil => simp
            | cons b bs =>
              have hb0 := hb b (.head _)
              show (a, vec (clear1 left b)) :: List.zip as (bs.map (vec ∘ clear1 left)) = clearV (vec left) (a, vec b) :: (List.zip as (bs.map vec)).map (clearV (vec left))
              rw [ih bs fun c hc => hb c (.tail _ hc)]
              congr 1
              show (a, vec (if b.any (· == maxL left) then bothL b left else b)) = (a, if (vec b).getLsbD (topV (vec left)) then vec b ^^^ vec left else vec b)
              rw [vec_top gl h, vec_bitI b hm.1 hm.2]
              split
              · rw [vec_bothL]
              · rfl
        exact this _ _ g.rows
      · show [((maxL left).toNat, vec left)] = [(topV (vec left), vec left)]
        rw [vec_top gl h]
    · rcases List.mem_append.mp hl with hl | hl
      · exact g.leads l hl
      · rw [List.mem_singleton.mp hl]; exact hm
theorem alp_stand : ∀ (rows : List (List Int)), (∀ r ∈ rows, Good r) → alp (standL rows) = (rows.map vec).foldl stepV [] ∧ GS (standL rows) := by
  intro rows
  suffices H : ∀ (rows : List (List Int)) (p : List Int × List (List Int)), GS p → (∀ r ∈ rows, Good r) → alp (rows.foldl stepS p) = (rows.map vec).foldl stepV (alp p) ∧ GS (rows.foldl stepS p) from
    fun h => H rows ([], []) ⟨rfl, fun _ h => (nomatch h), fun _ h => nomatch h⟩ h
  intro rows
  induction rows with
  | nil => exact fun p g _ => ⟨rfl, g⟩
  | cons r rows ih =>
    intro p g h
    obtain ⟨e, g'⟩ := alp_step g (h r (.head _))
    have := ih (stepS p r) g' fun q hq => h q (.tail _ hq)
    rw [e] at this
    exact this
theorem inv_fold : ∀ (xs : List V), Inv (xs.foldl stepV []) (xs.foldl totV [0]) := by
  intro xs
  suffices H : ∀ (xs : List V) (L : List (Nat × V)) (tot : List V), Inv L tot → Inv (xs.foldl stepV L) (xs.foldl totV tot) from H xs _ _ Inv.start
  intro xs
  induction xs with
  | nil => exact fun L tot i => i
  | cons x xs ih => exact fun L tot i => ih _ _ (i.step x)
theorem totV_mem {tot : List V} {x : V} (z : (0 : V) ∈ tot) : x ∈ totV tot x := by
  unfold totV
  split
  · assumption
  · exact List.mem_append_right _ (List.mem_map.mpr ⟨0, z, by simp⟩)
theorem totV_sub {tot : List V} {x t : V} (h : t ∈ tot) : t ∈ totV tot x := by
  unfold totV
  split
  · exact h
  · exact List.mem_append_left _ h
theorem fold_mem : ∀ (xs : List V) (tot : List V), (0 : V) ∈ tot → ∀ x ∈ xs, x ∈ xs.foldl totV tot := by
  have sub : ∀ (xs : List V) (tot : List V) (t : V), t ∈ tot → t ∈ xs.foldl totV tot := by
    intro xs
    induction xs with
    | nil => exact fun _ _ h => h
    | cons x xs ih => exact fun tot t h => ih _ t (totV_sub h)
  intro xs
  induction xs with
  | nil => exact fun _ _ _ h => nomatch h
  | cons y xs ih =>
    intro tot z x hx
    rcases List.mem_cons.mp hx with rfl | hx
    · exact sub xs _ x (totV_mem z)
    · exact ih _ (totV_sub z) x hx
theorem two_leads {L : List (Nat × V)} {tot : List V} (i : Inv L tot) {a b : V} (ha : a ∈ tot) (hb : b ∈ tot) (n : a ≠ b) (na : a ≠ 0) (nb : b ≠ 0) : 2 ≤ L.length := by
  have sa := i.span a ha
  have sb := i.span b hb
  match L, sa, sb with
  | [], sa, _ => exact absurd sa.symm na
  | [p], sa, sb =>
    have e : ∀ t : V, lin [p] t = if t.getLsbD p.1 then p.2 else 0 := fun t => by simp [lin]
    rw [e] at sa sb
    exfalso
    cases ea : a.getLsbD p.1 with
    | false => rw [ea] at sa; exact na sa.symm
    | true =>
      cases eb : b.getLsbD p.1 with
      | false => rw [eb] at sb; exact nb sb.symm
      | true =>
        rw [ea] at sa; rw [eb] at sb
        exact n (sa.symm.trans sb)
  | _ :: _ :: _, _, _ => simp
end Mine

open PySem PySem.W PySem.Spec PySem.Calls PyProof.Rows
set_option Elab.async false
set_option maxRecDepth 100000
namespace Mine
def numL (ns : List Int) : List Int := ns.take 24 ++ [44, 40]
def ordL (ns : List Int) : List Int := ((List.range 6).map fun n : Nat => (n : Int)).map fun n => ((ns.take 24).sum - n).fmod 6
def markL (ns : List Int) : List Int := (numL ns).map fun x => x.fmod 64
def rowsL (ns : List Int) : List (List Int) := (numL ns).map rowL
theorem fdivE (x : Int) {k : Int} (h : 0 ≤ k) : x.fdiv k = x / k := Int.fdiv_eq_ediv_of_nonneg x h
theorem fmodE (x : Int) {k : Int} (h : 0 ≤ k) : x.fmod k = x % k := Int.fmod_eq_emod_of_nonneg x h
theorem turned (k : Int) : (List.range 6).map (fun n : Nat => (k + (n : Int)).fmod 6) = [(k + 0) % 6, (k + 1) % 6, (k + 2) % 6, (k + 3) % 6, (k + 4) % 6, (k + 5) % 6] := by
  simp only [List.range, List.range.loop, List.map_cons, List.map_nil, fmodE _ (show (0 : Int) ≤ 6 by decide)]
  rfl
theorem row_good (x : Int) : Good (rowL x) := by
  unfold rowL
  rw [turned]
  refine ⟨List.Pairwise.filter _ ?_, fun c hc => ?_⟩
  · generalize x.fdiv 64 = k
    show List.Nodup _
    simp only [List.nodup_cons, List.mem_cons, List.not_mem_nil, or_false, not_or, List.nodup_nil, not_false_eq_true, and_true]
    omega
  · have := (List.mem_filter.mp hc).1
    simp only [List.mem_cons, List.not_mem_nil, or_false] at this
    omega
theorem plain_rows (ns : List Int) : ∀ r ∈ rowsL ns, Good r := fun r hr => by
  obtain ⟨x, _, rfl⟩ := List.mem_map.mp hr
  exact row_good x
theorem row_any (x : Int) {c : Nat} (hc : c < 6) : (rowL x).any (· == (c : Int)) = ((x / (2 : Int) ^ c) % 2 == 1) := by
  rw [Bool.eq_iff_iff, any_eq]
  unfold rowL
  rw [turned, List.mem_filter, Int.toNat_natCast, fdivE x (show (0 : Int) ≤ 2 ^ c from Int.pow_nonneg (by decide)), fmodE _ (by decide)]
  generalize x.fdiv 64 = k
  constructor
  · exact fun h => h.2
  · refine fun h => ⟨?_, h⟩
    simp only [List.mem_cons, List.not_mem_nil, or_false]
    omega
def toV (x : Int) : V := BitVec.ofNat 6 x.toNat
def ofV (v : V) : Int := (v.toNat : Int)
theorem toV_bit (x : Int) : ∀ c, c < 6 → (toV (x.fmod 64)).getLsbD c = ((x / (2 : Int) ^ c) % 2 == 1) := by
  intro c hc
  unfold toV
  rw [fmodE _ (by decide), BitVec.getLsbD_ofNat, decide_eq_true hc, Bool.true_and, Nat.testBit_eq_decide_div_mod_eq, Bool.eq_iff_iff, decide_eq_true_eq, beq_iff_eq]
  match c, hc with
  | 0, _ => show (x % 64).toNat / 1 % 2 = 1 ↔ x / 1 % 2 = 1; omega
  | 1, _ => show (x % 64).toNat / 2 % 2 = 1 ↔ x / 2 % 2 = 1; omega
  | 2, _ => show (x % 64).toNat / 4 % 2 = 1 ↔ x / 4 % 2 = 1; omega
  | 3, _ => show (x % 64).toNat / 8 % 2 = 1 ↔ x / 8 % 2 = 1; omega
  | 4, _ => show (x % 64).toNat / 16 % 2 = 1 ↔ x / 16 % 2 = 1; omega
  | 5, _ => show (x % 64).toNat / 32 % 2 = 1 ↔ x / 32 % 2 = 1; omega
theorem mark_row (x : Int) : toV (x.fmod 64) = vec (rowL x) := by
  apply BitVec.eq_of_getLsbD_eq
  intro i hi
  rw [toV_bit x i hi, vec_bit _ i hi, row_any x hi]
theorem plain_ord (ns : List Int) : ∀ c ∈ ordL ns, 0 ≤ c ∧ c < 6 := fun c hc => by
  obtain ⟨n, _, rfl⟩ := List.mem_map.mp hc
  rw [fmodE _ (by decide)]
  omega

theorem bx : ∀ a b : V, Builtin.bitXor (ofV a) (ofV b) = ofV (a ^^^ b) := by decide +kernel
theorem ofV_inj {a b : V} (h : ofV a = ofV b) : a = b := BitVec.eq_of_toNat_eq (by unfold ofV at h; omega)
theorem ofV_toV {m : Int} (h0 : 0 ≤ m) (h : m < 64) : ofV (toV m) = m := by
  unfold ofV toV
  rw [BitVec.toNat_ofNat]
  omega
theorem ofV_lt (v : V) : 0 ≤ ofV v ∧ ofV v < 64 := by
  have := v.isLt
  unfold ofV; omega
theorem totS_V (T : List V) (x : V) : totS Builtin.bitXor (T.map ofV) (ofV x) = (totV T x).map ofV := by
  unfold totS totV
  have e : (T.map ofV).any (· == ofV x) = true ↔ x ∈ T := by
    rw [any_eq, List.mem_map]
    constructor
    · rintro ⟨y, hy, q⟩; rw [← ofV_inj q]; exact hy
    · exact fun h => ⟨x, h, rfl⟩
  by_cases h : x ∈ T
  · rw [if_pos (e.mpr h), if_pos h]
  · rw [if_neg (fun q => h (e.mp q)), if_neg h, List.map_append, List.map_map, List.map_map]
    congr 1
    refine List.map_congr_left fun y _ => ?_
    exact bx x y
theorem totL_V (xs : List V) : totL Builtin.bitXor (xs.map ofV) = (xs.foldl totV [0]).map ofV := by
  unfold totL
  suffices H : ∀ (xs : List V) (T : List V), (xs.map ofV).foldl (totS Builtin.bitXor) (T.map ofV) = (xs.foldl totV T).map ofV from H xs [0]
  intro xs
  induction xs with
  | nil => exact fun T => rfl
  | cons x xs ih => intro T; rw [List.map_cons, List.foldl_cons, totS_V, ih]; rfl
def xsV (ns : List Int) : List V := (rowsL ns).map vec
theorem mark_V (ns : List Int) : markL ns = (xsV ns).map ofV := by
  unfold markL xsV rowsL
  rw [List.map_map, List.map_map]
  refine List.map_congr_left fun x _ => ?_
  show x.fmod 64 = ofV (vec (rowL x))
  rw [← mark_row, ofV_toV] <;> rw [fmodE _ (by decide)] <;> omega
theorem plain_tot (ns : List Int) : ∀ i, (totL Builtin.bitXor ((markL ns).take i)).length ≤ 64 := fun i => by
  rw [mark_V, ← List.map_take, totL_V]
  refine nodup_len 64 ?_ fun c hc => ?_
  · exact List.pairwise_map.mpr ((inv_fold _).nodup.imp fun ne q => ne (ofV_inj q))
  · obtain ⟨v, _, rfl⟩ := List.mem_map.mp hc
    exact ofV_lt v
theorem leads_alp {p : List Int × List (List Int)} (g : GS p) : (alp p).map (·.1) = p.1.map Int.toNat := by
  unfold alp
  exact List.map_fst_zip (by rw [List.length_map, List.length_map]; exact Nat.le_of_eq g.len)
theorem the_inv (ns : List Int) : Inv (alp (standL (rowsL ns))) ((xsV ns).foldl totV [0]) ∧ GS (standL (rowsL ns)) := by
  obtain ⟨e, g⟩ := alp_stand (rowsL ns) (plain_rows ns)
  rw [e]
  exact ⟨inv_fold _, g⟩
theorem plain_leads (ns : List Int) : Good (standL (rowsL ns)).1 := by
  obtain ⟨i, g⟩ := the_inv ns
  refine ⟨?_, g.leads⟩
  have h : ((alp (standL (rowsL ns))).map (·.1)).Nodup := by
    refine List.pairwise_map.mpr (i.red.off.imp_of_mem fun {p q} hp hq h e => ?_)
    have := h.1
    rw [← e, (i.red.top p hp).1] at this
    cases this
  rw [leads_alp g] at h
  exact (List.pairwise_map.mp h).imp fun ne q => ne (by rw [q])
theorem plain_two (ns : List Int) : 2 ≤ (standL (rowsL ns)).1.length := by
  obtain ⟨i, g⟩ := the_inv ns
  rw [← alp_len g]
  have mem : ∀ x ∈ [(44 : Int), 40], vec (rowL x) ∈ (xsV ns).foldl totV [0] := fun x hx =>
    fold_mem _ _ (List.mem_singleton.mpr rfl) _ (List.mem_map_of_mem (List.mem_map_of_mem (List.mem_append_right _ hx)))
  have e44 : vec (rowL 44) = 44#6 := by rw [← mark_row]; decide
  have e40 : vec (rowL 40) = 40#6 := by rw [← mark_row]; decide
  refine two_leads i (mem 44 (.head _)) (mem 40 (.tail _ (.head _))) ?_ ?_ ?_
  · rw [e44, e40]; decide
  · rw [e44]; decide
  · rw [e40]; decide

theorem sorted_ext : ∀ {l l' : List (Int × List Int)}, (l.map (·.1)).Pairwise (· < ·) → (l'.map (·.1)).Pairwise (· < ·) → (∀ q, q ∈ l ↔ q ∈ l') → l = l'
  | [], [], _, _, _ => rfl
  | [], b :: l', _, _, h => absurd ((h b).mpr (.head _)) (fun q => nomatch q)
  | a :: l, [], _, _, h => absurd ((h a).mp (.head _)) (fun q => nomatch q)
  | a :: l, b :: l', h1, h2, h => by
    obtain ⟨x1, x2⟩ := List.pairwise_cons.mp h1
    obtain ⟨y1, y2⟩ := List.pairwise_cons.mp h2
    have lt1 : ∀ q ∈ l, a.1 < q.1 := fun q hq => x1 _ (List.mem_map_of_mem hq)
    have lt2 : ∀ q ∈ l', b.1 < q.1 := fun q hq => y1 _ (List.mem_map_of_mem hq)
    have hab : a = b := by
      rcases List.mem_cons.mp ((h a).mp (.head _)) with e | e
      · exact e
      · rcases List.mem_cons.mp ((h b).mpr (.head _)) with f | f
        · exact f.symm
        · have := lt2 a e; have := lt1 b f; omega
    subst hab
    congr 1
    refine sorted_ext x2 y2 fun q => ⟨fun hq => ?_, fun hq => ?_⟩
    · rcases List.mem_cons.mp ((h q).mp (.tail _ hq)) with e | e
      · have := lt1 q hq; rw [e] at this; omega
      · exact e
    · rcases List.mem_cons.mp ((h q).mpr (.tail _ hq)) with e | e
      · have := lt2 q hq; rw [e] at this; omega
      · exact e
theorem dueL_mem (tot order : List Int) (q : Int × List Int) : ∀ n, q ∈ dueL tot order n ↔ ∃ j, j < n ∧ ledL tot j ≠ [] ∧ q = ((j : Int), restL order (minL (ledL tot j)))
  | 0 => ⟨fun h => (nomatch h), fun ⟨j, h, _⟩ => absurd h (Nat.not_lt_zero _)⟩
  | n + 1 => by
    have ih := dueL_mem tot order q n
    unfold dueL
    rw [List.mem_append, ih]
    constructor
    · rintro (⟨j, h1, h2⟩ | h)
      · exact ⟨j, by omega, h2⟩
      · split at h
        · cases h
        · rename_i hne
          rw [List.mem_singleton.mp h]
          exact ⟨n, Nat.lt_succ_self _, hne, rfl⟩
    · rintro ⟨j, h1, h2, h3⟩
      by_cases e : j = n
      · subst e
        right
        rw [if_neg h2]
        exact List.mem_singleton.mpr h3
      · exact .inl ⟨j, by omega, h2, h3⟩
theorem dueL_inc (tot order : List Int) : ∀ n, ((dueL tot order n).map (·.1)).Pairwise (· < ·)
  | 0 => .nil
  | n + 1 => by
    have ih := dueL_inc tot order n
    unfold dueL
    rw [List.map_append]
    refine List.pairwise_append.mpr ⟨ih, ?_, ?_⟩
    · split
      · exact .nil
      · exact List.pairwise_singleton _ _
    · intro a ha b hb
      obtain ⟨qa, hqa, rfl⟩ := List.mem_map.mp ha
      obtain ⟨qb, hqb, rfl⟩ := List.mem_map.mp hb
      obtain ⟨j, hj, _, rfl⟩ := (dueL_mem tot order qa n).mp hqa
      split at hqb
      · cases hqb
      · rw [List.mem_singleton.mp hqb]
        show (j : Int) < (n : Int)
        omega
theorem led_top : ∀ v : V, ∀ j : Fin 6, (decide ((2 : Int) ^ j.val ≤ ofV v) && decide (ofV v < (2 : Int) ^ (j.val + 1))) = true ↔ (v ≠ 0 ∧ topV v = j.val) := by decide +kernel
theorem rest_bit : ∀ v : V, ∀ c : Fin 6, (((ofV v).fdiv ((2 : Int) ^ c.val)).fmod 2 == 0) = !(v.getLsbD c.val) := by decide +kernel
theorem rest_diff (order r : List Int) (h : ∀ c ∈ order, 0 ≤ c ∧ c < 6) : restL order (ofV (vec r)) = diffL order r := by
  unfold restL diffL
  refine List.filter_congr fun c hc => ?_
  obtain ⟨h0, h6⟩ := h c hc
  have := rest_bit (vec r) ⟨c.toNat, by omega⟩
  rw [vec_bitI r h0 h6] at this
  exact this
theorem plain_eq (ns : List Int) (prs : List (Int × List Int)) (h : (prs.map (·.1)).Pairwise (· < ·))
    (hm : ∀ q, q ∈ prs ↔ ∃ k, k < (standL (rowsL ns)).1.length ∧ q = ((standL (rowsL ns)).1.getD k 0, diffL (ordL ns) ((standL (rowsL ns)).2.getD k []))) :
    prs = dueL (totL Builtin.bitXor (markL ns)) (ordL ns) 6 := by
  obtain ⟨i, g⟩ := the_inv ns
  generalize standL (rowsL ns) = p at i g hm
  have et : totL Builtin.bitXor (markL ns) = ((xsV ns).foldl totV [0]).map ofV := by rw [mark_V, totL_V]
  rw [et]
  generalize (xsV ns).foldl totV [0] = T at i
  have ledm : ∀ j (hj : j < 6) (a : Int), a ∈ ledL (T.map ofV) j ↔ ∃ t ∈ T, a = ofV t ∧ t ≠ 0 ∧ topV t = j := fun j hj a => by
    unfold ledL
    rw [List.mem_filter, List.mem_map]
    constructor
    · rintro ⟨⟨t, ht, rfl⟩, hb⟩
      exact ⟨t, ht, rfl, (led_top t ⟨j, hj⟩).mp hb⟩
    · rintro ⟨t, ht, rfl, hb⟩
      exact ⟨⟨t, ht, rfl⟩, (led_top t ⟨j, hj⟩).mpr hb⟩
  have key : ∀ k (hk : k < p.1.length), ∃ j : Nat, j < 6 ∧ (p.1.getD k 0) = (j : Int) ∧ ((alp p)[k]?).map (·.1) = some j ∧ ledL (T.map ofV) j ≠ [] ∧ restL (ordL ns) (minL (ledL (T.map ofV) j)) = diffL (ordL ns) (p.2.getD k []) := fun k hk => by
    have hk2 : k < p.2.length := by have := g.len; omega
    have e : (alp p)[k]? = some (p.1[k].toNat, vec p.2[k]) := by
      unfold alp
      rw [List.getElem?_zip_eq_some]
      simp [hk, hk2]
    have hmem : (p.1[k].toNat, vec p.2[k]) ∈ alp p := List.mem_of_getElem? e
    obtain ⟨l0, l6⟩ := g.leads _ (List.getElem_mem hk)
    have e1 : p.1.getD k 0 = p.1[k] := by rw [List.getD_eq_getElem?_getD, List.getElem?_eq_getElem hk]; rfl
    have e2 : p.2.getD k [] = p.2[k] := by rw [List.getD_eq_getElem?_getD, List.getElem?_eq_getElem hk2]; rfl
    have htop := i.red.top _ hmem
    have hT := i.mem _ hmem
    have hne : vec p.2[k] ≠ 0 := fun z => by
      have := htop.1
      rw [show (p.1[k].toNat, vec p.2[k]).2 = vec p.2[k] from rfl, z] at this
      simp at this
    have hj : topV (vec p.2[k]) = p.1[k].toNat := (isTop_topV hne).uniq htop
    have hin : ofV (vec p.2[k]) ∈ ledL (T.map ofV) p.1[k].toNat := (ledm _ (by omega) _).mpr ⟨_, hT, rfl, hne, hj⟩
    refine ⟨p.1[k].toNat, by omega, by rw [e1]; omega, by rw [e]; rfl, (fun z => by rw [z] at hin; cases hin), ?_⟩
    rw [e2, ← rest_diff _ _ (plain_ord ns)]
    congr 1
    refine (minL_of hin fun a ha => ?_).symm
    obtain ⟨t, ht, rfl, t0, tt⟩ := (ledm _ (by omega) _).mp ha
    have it : IsTop t p.1[k].toNat := tt ▸ isTop_topV t0
    have := i.least hmem ht it
    unfold ofV
    exact Int.ofNat_le.mpr this
  refine sorted_ext h (dueL_inc _ _ _) fun q => ?_
  rw [hm, dueL_mem]
  constructor
  · rintro ⟨k, hk, rfl⟩
    obtain ⟨j, j6, e1, _, e3, e4⟩ := key k hk
    exact ⟨j, j6, e3, by rw [e1, e4]⟩
  · rintro ⟨j, j6, hne, rfl⟩
    obtain ⟨a, ha⟩ := List.exists_mem_of_ne_nil _ hne
    obtain ⟨t, ht, rfl, t0, tt⟩ := (ledm j j6 _).mp ha
    obtain ⟨pr, hpr, hprj⟩ := i.lead ht (tt ▸ isTop_topV t0 : IsTop t j)
    obtain ⟨k, hk, rfl⟩ := List.getElem_of_mem hpr
    rw [alp_len g] at hk
    obtain ⟨j', j6', e1, e2, e3, e4⟩ := key k hk
    have : j' = j := by
      rw [List.getElem?_eq_getElem (by rw [alp_len g]; exact hk)] at e2
      have e2' := Option.some.inj e2
      rw [← e2', ← hprj]
    subst this
    exact ⟨k, hk, by rw [e1, e4]⟩
end Mine

open PySem PySem.W PySem.Spec PySem.Calls PyProof.Rows
set_option Elab.async false
set_option maxRecDepth 100000
set_option maxHeartbeats 8000000
namespace Mine
section
variable {w : World} {mg mb : Str → Option Value} {fl : List Env} {s0 h h' : Heap} {L : Nat} {m m' : Str → Option Value} {cs : List (Option Value)} {env : Env}
/-- open a stretch: the library walks on from here -/
theorem SS.open1 {v1 : Option Value} (x : SS fl s0 L h m [v1]) (ex : List (Addr × Obj)) (G : Ok w mg mb fl s0) (eL : L = s0.objs.size) (hex : ∀ p ∈ ex, h.get? p.1 = some p.2 ∧ p.1 ≠ L ∧ s0.get? p.1 = none) :
    ∃ base tail o1, (hd.heap_39 w.params).In base ∧ TopRead hd.view_39 (looseW hd.view_39 [Str.ofString "filterfalse"]) mg mb base ∧ Fr base L h m ∧
      News base L h (ex ++ ((L + 1, o1) :: tail)) ∧ o1.data = .cell v1 ∧
      (∀ h' m' news', Fr base L h' m' → News base L h' news' → (∀ p ∈ (L + 1, o1) :: tail, p ∈ news') → SS fl s0 L h' m' [v1] ∧ Rest L (ex.map (·.1)) h h') ∧
      ∀ b, base.get? b = none → s0.get? b = none := by
  obtain ⟨o1, e1, d1⟩ := x.c 0 v1 rfl
  have nn : ∀ j, s0.get? (L + 1 + j) = none := fun j => Heap.get?_none_of_le (by rw [← eL]; show @LE.le Nat _ L (L + 1 + j); omega)
  obtain ⟨base, tail, g, K, F, N, cov⟩ := stretch (ex ++ [(L + 1, o1)]) eL G x.k x.ns (fun p hp => by
    rcases List.mem_append.mp hp with hp | hp
    · exact hex p hp
    · simp only [List.mem_cons, List.not_mem_nil, or_false] at hp
      subst hp
      exact ⟨e1, by show @Ne Nat (L + 1) L; omega, nn 0⟩)

  refine ⟨base, tail, o1, g.X, g.T, F, by simpa using N, d1, fun h' m' news' F' N' hs => ⟨⟨K.stays F'.keep, F'.ns, ?_⟩, ?_⟩, fun b e => none_of K e⟩
  · intro j v e
    have hj : j < 1 := (List.getElem?_eq_some_iff.mp e).1
    match j, hj, e with
    | 0, _, e => cases e; exact ⟨o1, (N' _ (hs (L + 1, o1) (by simp))).1, d1⟩
  · have R := cov h' m' news' F' N' fun p hp => hs p (by simp [hp])
    intro b o e nL nx
    by_cases q : b ∈ [L + 1]
    · simp only [List.mem_cons, List.not_mem_nil, or_false] at q
      subst q
      rw [← e]; exact ((N' _ (hs (L + 1, o1) (by simp))).1).trans e1.symm
    · refine R b o e nL ?_
      rw [List.map_append]
      intro z
      rcases List.mem_append.mp z with z | z
      · exact nx z
      · exact q (by simpa using z)
end
local macro_rules | `(tactic| walk_at "exec Assign cons ListComp") => `(tactic| refine Stop.go ?_)
local macro_rules | `(tactic| walk_at "eval ListComp") => `(tactic| refine Stop.go ?_)
local macro_rules | `(tactic| walk_at "storeName") => `(tactic| refine Stop.go ?_)
local macro_rules | `(tactic| walk_at "subscriptTail Name Slice ref ref") => `(tactic| refine Stop.go ?_)
local macro_rules | `(tactic| walk_at "binaryOp Add ref ref") => `(tactic| refine Stop.go ?_)
local macro_rules | `(tactic| walk_at "compareOp Eq ref ref") => `(tactic| refine Stop.go ?_)
local macro_rules | `(tactic| walk_at "newList") => `(tactic| refine Stop.go ?_)
local macro_rules | `(tactic| walk_at "call ref") => `(tactic| refine Stop.go ?_)
local macro_rules | `(tactic| walk_at "call builtin:sum") => `(tactic| refine Stop.go ?_)
local macro_rules | `(tactic| walk_at "eval Name") => `(tactic| (refine' nameX_L ?F ?v ?_ ?a ?b; (case a => rfl); (case b => rfl); (case F => k_asm); (case v => assumption)))
local macro_rules | `(tactic| walk_at "eval Call") => `(tactic| ((with_reducible show wpAny _ _ (eval (Expr.Call (Expr.Name (Str.ofString "sum") _) _ _ _) _) _ _ _); refine Stop.go ?_))
local macro_rules | `(tactic| walk_at "eval Name") => `(tactic| ((with_reducible show wpAny _ _ (eval (Expr.Name (Str.ofString "sum") _) _) _ _ _); refine Stop.go ?_))
theorem isList_seq {h : Heap} {a : Addr} {X : Array Value} {n : Nat} (e : h.get? a = some { cls := .type "list", data := .seq X n }) : h.IsList a (List.toArray X.toList) := by rw [Array.toArray_toList]; exact ⟨_, e, rfl, n, rfl⟩
section
variable {prog : Program} {w : World} {A : Around} {E : Value → Shared → Prop} {s : Shared}
theorem slice_raw {value slice : Expr} {l : Addr} {items : Array Value} {vl vu : Value} {lo hi : Option Int} {Q : Value → Shared → Prop}
    (hl : s.heap.IsList l items) (pl : IsPart vl lo) (pu : IsPart vu hi)
    (h : ∀ h', s.heap.StaysIn h' → h'.get? (s.heap.objs.size + 1) = some { cls := .type "list", data := .seq (slicePick items lo hi none) } → Q (.ref (s.heap.objs.size + 1)) { s with heap := h' })
    (hs : subscripted slice false (.ref l) (.ref s.heap.objs.size) = operate [.ref s.heap.objs.size, .ref l] (getItem (.ref l) (.ref s.heap.objs.size)) := by with_unfolding_all rfl)
    (ht : ∀ r, letTemporaryGo value (.ref l) r = pure () := by intro _; with_unfolding_all rfl)
    (hsz : items.size ≤ sizeLine := by size_fits) :
    wpAny (model prog w) A (subscriptTail value slice (.ref l) (.ref s.heap.objs.size)) Q E { s with heap := s.heap.push { cls := .type "slice", data := .fields #[vl, vu, .none] } } := by
  refine subscriptTail_ops (Heap.IsList.typeIs (s := { s with heap := s.heap.push { cls := .type "slice", data := .fields #[vl, vu, .none] } }) (hl.push _)) list_getitem_lookup
    (wpAny_getItem_list_slice (hl.push _) (Heap.IsSliceOf.new ..) pl pu .none (by simp) ?_ hsz) hs ht
  show Q (.ref (s.heap.push _).objs.size) _
  have e : ∀ o : Obj, (s.heap.push o).objs.size = s.heap.objs.size + 1 := fun o => Heap.size_push _ _
  rw [e]
  refine h _ (fun b o q => Heap.get?_push_of_some _ (Heap.get?_push_of_some _ q)) ?_
  rw [← e { cls := .type "slice", data := .fields #[vl, vu, .none] }]
  exact Heap.get?_push_size _ rfl
theorem eq_ints {l b : Addr} {xs ys : List Value} {ns : List Int} (hl : s.heap.IsList l xs.toArray) (hb : s.heap.IsList b ys.toArray) (hx : IntsAre xs ns) (hy : IntsAre ys ns) (hu : A.units < cLine) : PySem.SeqAt.EqAt A s (.ref l) (.ref b) true := by
  by_cases q : l = b
  · rw [q]; exact PySem.SeqAt.EqAt.same _
  · have hlx := hx.length
    have hly := hy.length
    have := PySem.SeqAt.RcAt.lists (A := A) (s := s) (e := fun _ => true) hl hb (by simp [hlx, hly]) hu fun j h1 h2 => by
      have j1 : j < ns.length := by simpa [hlx] using h1
      obtain ⟨t, e1⟩ := intsAre_at hx j j1
      obtain ⟨u, e2⟩ := intsAre_at hy j j1
      have f1 : xs.toArray[j] = .int ns[j] t := by
        have : xs[j]? = some xs.toArray[j] := by simp [hlx, j1]
        rw [this] at e1; exact Option.some.inj e1
      have f2 : ys.toArray[j] = .int ns[j] u := by
        have : ys[j]? = some ys.toArray[j] := by simp [hly, j1]
        rw [this] at e2; exact Option.some.inj e2
      rw [f1, f2]
      have := (MeetsSeq.EqGives.int ns[j] ns[j] t u).at A.in1 s
      rwa [beq_self_eq_true] at this
    have e : (List.range xs.toArray.size).all (fun _ => true) = true := by simp
    rw [e] at this
    exact PySem.SeqAt.EqAt.of_refs q this
theorem eq_pair {y z : Value} {q : Int × List Int} (hy : pairAt s.heap y q) (hz : pairAt s.heap z q) (hu : A.units + 1 < cLine) : PySem.SeqAt.EqAt A s y z true := by
  obtain ⟨e, t, d, zs, rfl, l1, l2, i1⟩ := hy
  obtain ⟨e', t', d', zs', rfl, l1', l2', i1'⟩ := hz
  by_cases c : e = e'
  · rw [c]; exact PySem.SeqAt.EqAt.same _
  · have := PySem.SeqAt.RcAt.lists (A := A) (s := s) (e := fun _ => true) l1 l1' rfl (Nat.lt_of_succ_lt hu) fun j h1 h2 => by
      have hj : j < 2 := h1
      match j, hj with
      | 0, _ =>
        have := (MeetsSeq.EqGives.int q.1 q.1 t t').at A.in1 s
        rw [beq_self_eq_true] at this
        exact this
      | 1, _ => exact eq_ints l2 l2' i1 i1' hu
    exact PySem.SeqAt.EqAt.of_refs c this
theorem eq_pairs {l b : Addr} {ys zs : List Value} {prs : List (Int × List Int)} {Q : Value → Shared → Prop} (hl : s.heap.IsList l ys.toArray) (hb : s.heap.IsList b zs.toArray) (py : Paired (pairAt s.heap) ys prs) (pz : Paired (pairAt s.heap) zs prs) (hu : A.units < 9000)
    (h : Q (.bool true) s) : wpAny (model prog w) A (compareOp .Eq (.ref l) (.ref b)) Q E s := by
  have h1 := py.length
  have h2 := pz.length
  refine PySem.SeqAt.eq_listAt (e := fun _ => true) hl hb (by simp [h1, h2]) (Nat.lt_of_lt_of_le hu (by decide)) (fun j j1 j2 => ?_) (by rw [show (List.range ys.toArray.size).all (fun _ => true) = true from by simp]; exact h)
  have k1 : j < ys.length := by simpa using j1
  have k2 : j < zs.length := by simpa using j2
  obtain ⟨q, hq, p1⟩ := paired_get py j _ (List.getElem?_eq_getElem k1)
  obtain ⟨q', hq', p2⟩ := paired_get pz j _ (List.getElem?_eq_getElem k2)
  rw [hq] at hq'; cases hq'
  exact eq_pair p1 p2 (by show A.units + 1 + 1 < 9900; omega)
theorem rowsPair {h : Heap} : ∀ {vs ys : List Value} {ns : List Int}, IntsAre vs ns → Paired (fun v y => ∃ n, (∃ t, v = Value.int n t) ∧ ∃ a zs, y = .ref a ∧ h.IsList a (List.toArray zs) ∧ IntsAre zs (rowL n)) (vs.filter fun _ => true) ys → Paired (fun v r => ∃ a zs, v = Value.ref a ∧ h.IsList a (List.toArray zs) ∧ IntsAre zs r) ys (ns.map rowL) := by
  intro vs ys ns p q
  rw [List.filter_eq_self.mpr (fun _ _ => rfl)] at q
  induction p generalizing ys with
  | nil => cases q; exact .nil
  | cons n t r ih =>
    cases q with
    | cons b s =>
      obtain ⟨n', ⟨t', e⟩, a, zs, ey, l, i⟩ := b
      cases e
      exact .cons ⟨a, zs, ey, l, i⟩ (ih s)
theorem sum_raw {l : Addr} {vs : List Value} {ns : List Int} {Q : Value → Shared → Prop} (hh : A.handled = none) (hl : s.heap.IsList l vs.toArray) (hi : IntsAre vs ns)
    (h : ∀ h' tk t', s.heap.StaysIn h' → Q (.int ns.sum t') { s with heap := h', toks := tk }) : wpAny (model prog w) A (call (.builtin "sum") [.ref l]) Q E s := by
  obtain ⟨xs, e⟩ := hi.allInts.items
  rw [e] at hl
  refine sum_intListG hh hl fun h' tk t' hk => ?_
  have this := h h' tk t' hk
  have hns : ns = numsOf (intItems xs).toList := by rw [← e]; exact hi.numsOf.symm
  rw [hns, nums_intItems] at this
  rw [preSum_eq, List.take_of_length_le (by simp)]
  exact this
end
example : PySem.Challenge.rw_in0205_01 = PySem.Challenge.rw_in0205_01 ∧ hd.heap_39 = hd.heap_39 := by k_fill; exact ⟨rfl, rfl⟩
set_option maxHeartbeats 8000000 in
theorem law_holds : PySem.Challenge.rw_in0205_01.Holds := hd (by
  k_go0
  all_goals try k_fold
  dsimp only
  rename World => w
  rename Shared => s1
  rename IntsAre _ _ => hI
  rename Heap.IsList _ _ _ => hL
  rename Frag.In _ _ => KX
  rename Top _ _ _ _ _ _ => T
  rename CellsAre _ _ _ => X0
  rename News _ _ _ _ => N0
  rename Fr _ _ _ _ => F0
  rename ¬ _ < _ => h63
  rename List Value => vs
  rename List Int => ns
  rename Heap => h1
  change wpAny (model P0 w) _ _ _ _ _
  have G0 : Gd w _ _ s1.heap := ⟨KX, topRead_of T⟩
  have G : Ok w _ _ [] s1.heap := ⟨G0, fms_nil⟩
  generalize hLs : s1.heap.objs.size = L at F0 N0 X0 ⊢
  have eL : L = s1.heap.objs.size := hLs.symm
  obtain ⟨ax, hLx, hcell⟩ : ∃ ax, s1.heap.IsList ax vs.toArray ∧ Cell h1 (L + 1) (some (.ref ax)) := ⟨_, hL, _, (N0 _ (.head _)).1, by cases X0 with | cons d _ => exact d⟩
  have ssk : ∀ m, h1.Ns L m → SS [] s1.heap L h1 m [some (.ref ax)] := fun m n => ⟨.of_stays F0.keep, n, fun j v e => by
    have hj : j < 1 := (List.getElem?_eq_some_iff.mp e).1
    match j, hj, e with
    | 0, _, e => cases e; exact hcell⟩
  have ss := ssk _ F0.ns
  rename Below _ _ _ _ => K0
  clear ssk F0 N0 X0 K0 KX T
  obtain ⟨base, tail, o1, KX, T, FO, NO, d1, cov, kb⟩ := SS.open1 (ss) [] G eL (fun _ h => nomatch h)
  simp only [List.nil_append] at NO
  refine stopQ ?_
  have hvl : vs.length = ns.length := hI.length
  have hn63 : ns.length ≤ 63 := by omega
  k_steps
  refine Stop.mk (slice_list FO NO (ss.k.isList hLx) .none (.int _ _) (fun h2 F2 N2 => ?_) (hsz := by rw [sizeLine_eq, List.size_toArray]; omega))
  obtain ⟨ss2, r2⟩ := cov _ _ _ F2 N2 (by (intro p hp; first | exact hp | exact .tail _ hp | exact .tail _ (.tail _ hp) | exact .tail _ (.tail _ (.tail _ hp)) | exact .tail _ (.tail _ (.tail _ (.tail _ hp)))))
  have hS2 : ∃ Sa, Sa = ({ s1 with heap := h1 } : Shared).heap.objs.size + 1 ∧ ∃ xs, h2.IsList Sa (List.toArray xs) ∧ IntsAre xs (ns.take 24) :=
    ⟨_, rfl, (slicePick vs.toArray none (some 24) none).toList, isList_seq (N2 _ (.head _)).1, slice_ints_uptoW hI (by decide)⟩
  obtain ⟨Sa, eSa, xs, lSa, iSa⟩ := hS2
  dsimp only at eSa ⊢
  rw [← eSa]
  clear KX T FO NO cov kb F2 N2 r2
  obtain ⟨base, tail, o1, KX, T, FO, NO, d1, cov, kb⟩ := SS.open1 (ss2) [] G eL (fun _ h => nomatch h)
  simp only [List.nil_append] at NO
  k_steps
  have xl := iSa.length
  rw [List.length_take] at xl
  refine Stop.mk (wpAny_newObj_type (add_raw (vs := xs) (ws := [.int 44 _, .int 40 _]) (lSa.push _) ⟨_, Heap.get?_push_size _ rfl, rfl, _, rfl⟩ ?_ (by rw [sizeLine_eq]; show xs.length + 2 ≤ _; omega)))
  have ss3 := fun x y : Obj => (ss2.stays (h' := h2.push x) fun b o e => Heap.get?_push_of_some _ e).stays (h' := (h2.push x).push y) fun b o e => Heap.get?_push_of_some _ e
  refine wpAny_storeName_local rfl (ss3 _ _).ns (fun h4 hn4 hs4 => ?_) rfl
  have ss4 := (ss3 _ _).frame hs4 hn4 eL
  have nNL : ∀ x : Obj, (h2.push x).objs.size ≠ L := fun x => Nat.ne_of_gt (ss2.stays (h' := h2.push x) fun b o e => Heap.get?_push_of_some _ e).ns.lt
  obtain ⟨m4, Nu, nvs, hm4, en4, iNu, lN4⟩ : ∃ m Nu nvs, SS [] s1.heap L h4 m [some (.ref ax)] ∧ m (Str.ofString "numbers") = some (.ref Nu) ∧ IntsAre nvs (ns.take 24 ++ [44, 40]) ∧ h4.IsList Nu (List.toArray nvs) :=
    ⟨_, _, _, ss4, if_pos rfl, iSa.append (.cons _ _ (.cons _ _ .nil)), ⟨_, hs4.extBut _ _ (nNL _) (Heap.get?_push_size _ rfl), rfl, _, rfl⟩⟩
  clear KX T FO NO cov kb ss4 hs4 hn4 nNL ss3 ss2 lSa ss
  obtain ⟨base, tail, o1, KX, T, FO, NO, d1, cov, kb⟩ := SS.open1 (hm4) [] G eL (fun _ h => nomatch h)
  simp only [List.nil_append] at NO
  k_steps
  refine Stop.mk (comp_as (fl := []) (fun _ => true) (fun _ v y => ∀ n t, v = .int n t → ∃ t', y = .int (((ns.take 24).sum - n).fmod 6) t') (fun _ _ _ _ _ h => h) rfl rfl rfl (by decide) rfl (by decide) rfl rfl rfl (stopQ ?_))
  k_steps
  rename IsRange _ _ _ _ _ _ _ _ => rg
  rename Fr _ _ _ _ => F5
  rename News _ _ _ _ => N5
  obtain ⟨ss5, r5⟩ := cov _ _ _ F5 N5 (by (intro p hp; first | exact hp | exact .tail _ hp | exact .tail _ (.tail _ hp) | exact .tail _ (.tail _ (.tail _ hp)) | exact .tail _ (.tail _ (.tail _ (.tail _ hp)))))
  refine Stop.mk ?_
  dsimp only at rg ⊢
  have lN5 := r5.isList hm4.ns lN4 (fun q => nomatch q)
  clear F5 N5 KX T cov kb r5
  refine ⟨6, fun i v => i < 6 ∧ ∃ t, v = .int (i : Int) t, _, Src.range (n := 6) rg (by decide), fms_nil, ss5.ns, ?_, ?_⟩
  · intro ex C i v h tk m E' hex hC0 hP hnC hm kp
    obtain ⟨_, ti, rfl⟩ := hP
    have ssc := ss5.stays kp.nil
    obtain ⟨oC, eC, hoC⟩ := LCg.ns_obj hnC
    have nCL : C ≠ L := fun q => by
      obtain ⟨o, _, _, e, _⟩ := ss5.ns
      rw [← q, hC0] at e; cases e
    obtain ⟨base, tail, o1, KX, T, FO, NO, d1, cov, kb⟩ := SS.open1 (ssc) [(C, oC)] G eL (by
      intro q hq
      cases List.mem_singleton.mp hq
      exact ⟨eC, nCL, none_of ss5.k hC0⟩)
    simp only [List.nil_append, List.cons_append] at NO
    refine wpAny_tests_nil ⟨rfl, h, _, rfl, .refl, fun _ E'' => stopQ ?_⟩
    k_steps
    refine Stop.mk (Call_ ?_)
    k_steps
    refine Stop.mk (nmB FO KX T (by k_is) boot_sum (by decide) ?_ rfl rfl rfl rfl (by decide))
    k_steps
    refine Stop.mk (slice_raw (ssc.k.isList hLx) .none (.int _ _) (fun h6 k6 e6 => ?_) (hsz := by rw [sizeLine_eq, List.size_toArray]; omega))
    k_steps
    refine Stop.mk (sum_raw rfl (isList_seq e6) (slice_ints_uptoW hI (by decide)) fun h7 tk7 t7 k7 => ?_)
    have k67 : h.StaysIn h7 := fun b o e => k7 b o (k6 b o e)
    have F7 := FO.keeps k67
    have N7 : News base L h7 _ := fun p hp => ⟨k67 _ _ (NO p hp).1, (NO p hp).2⟩
    k_steps
    exact Stop.mk ⟨h7, _, rfl, .of_stays k67, fun n t e => by cases e; exact ⟨_, rfl⟩⟩
  · intro D hm h8 tk ys vs9 hD hpl hlen9 hP9 hpa kpm hk8 hn8
    have hor := compInts (pz := fun _ => true) (f := fun n => ((ns.take 24).sum - n).fmod 6) (fun _ _ => rfl) (fun n t y _ h => h n t rfl) (rangeVals hlen9 fun j v e => (hP9 j v e).2) hpa
    rw [List.filter_eq_self.mpr (fun _ _ => rfl)] at hor
    have hord : IntsAre ys.toList (ordL ns) := hor
    have ss8 := (ss5.stays kpm.nil).frame1 hk8 hn8 eL
    have k8 : Keep' [] _ h8 := Keep'.frame (fun b o n e => hk8 b o n (kpm.nil b o e)) ss5.ns
    have nDL : D ≠ L := fun q => by
      obtain ⟨_, _, _, e, hd, _⟩ := (ss5.stays kpm.nil).ns
      obtain ⟨n, e'⟩ := hpl
      rw [← q, e'] at e; cases e; cases hd
    have lO8 : h8.IsList D (List.toArray ys.toList) := by
      obtain ⟨n, e⟩ := hpl
      rw [Array.toArray_toList]
      exact ⟨_, hk8 _ _ nDL e, rfl, n, rfl⟩
    have lN8 := k8.isList lN5 (fun q => nomatch q)
    obtain ⟨m8, hm8, en8, eo8⟩ : ∃ m, SS [] s1.heap L h8 m [some (.ref ax)] ∧ m (Str.ofString "numbers") = some (.ref Nu) ∧ m (Str.ofString "order") = some (.ref D) := ⟨_, ss8, (if_neg (by decide)).trans en4, if_pos rfl⟩
    clear ss8 hk8 hn8 kpm hpl k8 hor hpa lN5 ss5
    obtain ⟨base, tail, o1, KX, T, FO, NO, d1, cov, kb⟩ := SS.open1 (hm8) [] G eL (fun _ h => nomatch h)
    simp only [List.nil_append] at NO
    k_steps
    have hnl := iNu.length
    have hnl2 : (ns.take 24 ++ [44, 40]).length ≤ 26 := by rw [List.length_append, List.length_take]; show min 24 ns.length + 2 ≤ 26; omega
    refine Stop.mk (comp_ev (fl := []) (fun _ => true) (fun h v y => ∃ n, (∃ t, v = .int n t) ∧ ∃ a zs, y = .ref a ∧ h.IsList a (List.toArray zs) ∧ IntsAre zs (rowL n)) (fun h h' v y k ⟨n, e, a, zs, ey, l, i⟩ => ⟨n, e, a, zs, ey, k.isList l, i⟩) rfl rfl (by decide) rfl (by decide) rfl (stopQ ?_))
    k_steps
    refine Stop.mk ?_
    dsimp only
    refine ⟨_, _, Src.list (its := nvs) lN8 (by omega), fms_nil, ?_, ?_⟩
    · intro ex C j v h tk m E' hex hC0 hP hnC hm kp
      obtain ⟨nj, tj, rfl, _⟩ := intsAre_mem iNu (List.mem_of_getElem? hP)
      have ssc := hm8.stays kp.nil
      obtain ⟨oC, eC, hoC⟩ := LCg.ns_obj hnC
      have nCL : C ≠ L := fun q => by
        obtain ⟨o, _, _, e, _⟩ := hm8.ns
        rw [← q, hC0] at e; cases e
      obtain ⟨base, tail, o1, KX, T, FO, NO, d1, cov, kb⟩ := SS.open1 (ssc) [(C, oC)] G eL (by
        intro q hq
        cases List.mem_singleton.mp hq
        exact ⟨eC, nCL, none_of hm8.k hC0⟩)
      simp only [List.nil_append, List.cons_append] at NO
      refine wpAny_tests_nil ⟨rfl, h, _, rfl, .refl, fun _ E'' => stopQ ?_⟩
      k_steps
      refine Stop.mk (row_spec (G0.keeps ssc.k.nil) (by show callerA.depth + 1 < 880; decide) rfl fun h' tk' D2 zs2 k2 nD2 l2 i2 => Stop.mk ⟨h', _, rfl, .of_stays k2, nj, ⟨_, rfl⟩, D2, zs2, rfl, isList_hide l2 (fun q => ?_), i2⟩)
      obtain ⟨_, o, e⟩ := hex _ q
      rw [nD2] at e; cases e
    · intro D3 hm3 tk ys3 vs3 hD3 hpl3 hlen3 hP3 hpa3 kp3
      obtain rfl := srcVals hlen3 hP3
      have ss9 := hm8.stays kp3.nil
      obtain ⟨base, tail, o1, KX, T, FO, NO, d1, cov, kb⟩ := SS.open1 (ss9) [] G eL (fun _ h => nomatch h)
      simp only [List.nil_append] at NO
      k_steps
      have hrp := (rowsPair iNu hpa3)
      have hrp' : Paired (fun v r => ∃ a zs, v = Value.ref a ∧ hm3.IsList a (List.toArray zs) ∧ IntsAre zs r) ys3.toList (rowsL ns) := hrp.mono fun v r ⟨a, zs, e, ⟨o, eo, rr⟩, i⟩ => ⟨a, zs, e, ⟨o, of_hideAll _ eo, rr⟩, i⟩
      have lO9 := isList_any (fun b o e => ⟨o.slots, kp3.nil b o e⟩) lO8
      have lN9 := isList_any (fun b o e => ⟨o.slots, kp3.nil b o e⟩) lN8
      refine Stop.mk (stand_spec (order := ordL ns) (rows := rowsL ns) (vs := ys3.toList) (ws := ys.toList) (ss9.ok G (by show ScopeKind.function ≠ ScopeKind.module; decide) rfl eL) rfl (by show callerA.depth + 1 < 870; decide) (by show callerA.units + 3 < 8900; decide) rfl
        (by rw [Array.toArray_toList]; exact hpl3.isList) hrp' (plain_rows ns) (by unfold rowsL numL; rw [List.length_map]; exact hnl2) lO9 hord (by simp [ordL]) (plain_leads ns) (plain_two ns) fun h10 tk10 D4 ys4 prs k10 nD4 l4 p4 s4 m4' => ?_)
      have ss10 := ss9.kp k10 rfl eL
      have lN10 := k10.isList lN9
      have lO10 := k10.isList lO9
      refine wpAny_storeName_local rfl ss10.ns (fun h11 hn11 hs11 => ?_) rfl
      have ss11 := ss10.frame hs11 hn11 eL
      have k11 : Keep' [] h10 h11 := .frame (fun b o n e => hs11.extBut b o n e) ss10.ns
      have lN11 := k11.isList lN10 (fun q => nomatch q)
      have lO11 := k11.isList lO10 (fun q => nomatch q)
      have l411 := k11.isList l4 (fun q => nomatch q)
      have p411 : Paired (pairAt h11) ys4 prs := p4.mono fun y q ⟨e, t, d, zs, a, l1, l2, i⟩ => ⟨e, t, d, zs, a, k11.isList l1 (fun q => nomatch q), k11.isList l2 (fun q => nomatch q), i⟩
      obtain ⟨m11, hm11, en11, eo11, es11⟩ : ∃ m, SS [] s1.heap L h11 m [some (.ref ax)] ∧ m (Str.ofString "numbers") = some (.ref Nu) ∧ m (Str.ofString "order") = some (.ref D) ∧ m (Str.ofString "stand") = some (.ref D4) := ⟨_, ss11, (if_neg (by decide)).trans en8, (if_neg (by decide)).trans eo8, if_pos rfl⟩
      clear KX T cov kb ss11 hs11 hn11 k11 p4 l4 lN10 lO10 lN9 lO9 ss10 k10 ss9 hrp hrp' hpa3 hpl3
      obtain ⟨base, tail, o1, KX, T, FO, NO, d1, cov, kb⟩ := SS.open1 (hm11) [] G eL (fun _ h => nomatch h)
      simp only [List.nil_append] at NO
      k_steps
      refine Stop.mk (comp_ev (fl := []) (fun _ => true) (fun _ v y => ∀ n t, v = .int n t → ∃ t', y = .int (n.fmod 64) t') (fun _ _ _ _ _ h => h) rfl rfl (by decide) rfl (by decide) rfl (stopQ ?_))
      k_steps
      refine Stop.mk ?_
      dsimp only
      refine ⟨_, _, Src.list (its := vs3) lN11 (by omega), fms_nil, ?_, ?_⟩
      · intro ex C j v h tk m E' hex hC0 hP hnC hm kp
        obtain ⟨nj, tj, rfl, _⟩ := intsAre_mem iNu (List.mem_of_getElem? hP)
        have ssc := hm11.stays kp.nil
        obtain ⟨oC, eC, hoC⟩ := LCg.ns_obj hnC
        have nCL : C ≠ L := fun q => by
          obtain ⟨o, _, _, e, _⟩ := hm11.ns
          rw [← q, hC0] at e; cases e
        obtain ⟨base, tail, o1, KX, T, FO, NO, d1, cov, kb⟩ := SS.open1 (ssc) [(C, oC)] G eL (by
          intro q hq
          cases List.mem_singleton.mp hq
          exact ⟨eC, nCL, none_of hm11.k hC0⟩)
        simp only [List.nil_append, List.cons_append] at NO
        refine wpAny_tests_nil ⟨rfl, h, _, rfl, .refl, fun _ E'' => stopQ ?_⟩
        k_steps
        exact Stop.mk ⟨h, _, rfl, .refl, fun n t e => by cases e; exact ⟨_, rfl⟩⟩
      · intro D5 hm5 tk ys5 vs5 hD5 hpl5 hlen5 hP5 hpa5 kp5
        obtain rfl := srcVals hlen5 hP5
        have him := compInts (pz := fun _ => true) (f := fun n => n.fmod 64) (fun _ _ => rfl) (fun n t y _ h => h n t rfl) iNu hpa5
        rw [List.filter_eq_self.mpr (fun _ _ => rfl)] at him
        have him' : IntsAre ys5.toList (markL ns) := him
        have ss12 := hm11.stays kp5.nil
        obtain ⟨base, tail, o1, KX, T, FO, NO, d1, cov, kb⟩ := SS.open1 (ss12) [] G eL (fun _ h => nomatch h)
        simp only [List.nil_append] at NO
        k_steps
        refine Stop.mk (due_spec (marks := markL ns) (order := ordL ns) (vs := ys5.toList) (ws := ys.toList) (G0.keeps ss12.k.nil) (by show callerA.depth + 1 < 870; decide) (by show callerA.units + 3 < 8900; decide) rfl
          (by rw [Array.toArray_toList]; exact hpl5.isList) him' (by unfold markL numL; rw [List.length_map]; exact hnl2) (isList_any (fun b o e => ⟨o.slots, kp5.nil b o e⟩) lO11) hord (by simp [ordL]) (plain_ord ns) (plain_tot ns) fun h12 tk12 D6 ys6 k12 nD6 l6 p6 => ?_)
        have k512 : h11.StaysIn h12 := fun b o e => k12 b o (kp5.nil b o e)
        rw [← plain_eq ns prs s4 m4'] at p6
        refine eq_pairs (isList_any (fun b o e => ⟨o.slots, k512 b o e⟩) l411) l6 (p411.mono fun _ _ h => h.kp (fl := []) (.of_stays k512)) p6 (by show callerA.units + 3 < 9000; decide) ?_
        have ss13 := ss12.stays k12
        have FF : Fr s1.heap L h12 _ := ⟨ss13.ns, ss13.k.nil, by rw [hLs]; exact Nat.le_refl _⟩
        refine Stop.mk ?_
        show GoodW _ _ _ _ _ (Except.ok (Flow.ret (Value.bool true))) _
        refine goodW_bool FF (by assumption) (fun _ => rfl) ?_
        first
          | wrow_post
          | exact postW_of rfl rfl rfl)
end Mine

theorem PySem.Challenge.cw_in0205_01_holds : PySem.Challenge.rw_in0205_01.Holds :=
  Mine.law_holds

import PyProof.Rows.All
import Wide.All
import OpenK.AllK
import Wide.FinOn
import Lean
import PySem.Challenge.RW_ij0072_01
open PySem PySem.W PyProof.Rows
set_option Elab.async false
set_option maxRecDepth 100000
set_option maxHeartbeats 8000000
namespace Mine
open_top hd for PySem.Challenge.rw_ij0072_01
open PySem PySem.W PyProof.Rows PySem.Calls PySem.Spec
local macro_rules | `(tactic| k_room) => `(tactic| ktr_room)
local macro_rules | `(tactic| k_units) => `(tactic| ktr_units)
local macro_rules | `(tactic| k_steps) => `(tactic| repeat' ((fail_if_success (with_reducible show wpAny _ _ (exec (Stmt.While _ _ _ _) _) _ _ _)); first | (k_unfold; (try dsimp only)) | (k_end; wrow_close) | walk1 | (dsimp only; walk1) | (leave1; walk_say "STEP leave1"; try dsimp only) | fail "no step"))
-- Base
theorem off_Base : True := by (w_top off; exact trivial)
section
theorem hs_ne {d x : Addr} {hs : List (Addr × Obj)} (h : AllLt d hs) (hx : @LE.le Nat _ d x) : ∀ q ∈ hs, q.1 ≠ x := fun q hq => Nat.ne_of_lt (Nat.lt_of_lt_of_le (ktn_ltOf h q hq) hx)
theorem code_defL {prog : Program} {w : World} {A A₀ : Around} {s : Shared} {K : Frag} {L : Addr} {h₀ base : Heap} {m mg mb : Str → Option Value} {news : List (Addr × Obj)} {p : Program} {loose : List Str} {mean : ExcName → Option Value} {env : Env} {outer : List Env} {R : Result → Shared → Prop} {name qual : Str} {params : Arguments} {body : List Stmt} {scope : Scope} {dV kV doc pm cdv ct oc : Value} {an od : Option Addr} {osl : Array (Option Value)} {f : Addr} {args : Args} {binds : List (Str × Value)}
    (B : Below A₀ base outer h₀) (F : Fr h₀ L s.heap m) (X₀ : K.In h₀) (N : News h₀ L s.heap news) (T : Top p loose mean mg mb h₀) (hA : A.frames = some (env :: outer)) (hf : env.frame = some L) (hke : env.scope.kind = .function)
    (ho : K.lookup f = some ⟨oc, od, .func (fnOf name qual params body scope dV kV doc pm an cdv ct), osl⟩) (hcd : codeIn K cdv qual = true) (hroom : A.depth < recursionLimit)
    (hbind : BindsTo s (fnOf name qual params body scope dV kV doc pm an cdv ct) args binds) (hloc : ∀ y ∈ binds, scope.names.lookup y.1 = some .local)
    (h : ∀ g L' h₁, Fr h₀ L g m → Fr g L' h₁ (fun y => binds.reverse.lookup y) → News g L' h₁ news → Below A base (env :: outer) g → K.In g → Top p loose mean mg mb g → (∀ p ∈ news, p.1 < L') →
      wpAny (model prog w) (A.deeper (envOf qual scope L' f cdv)) (execs body (envOf qual scope L' f cdv))
        (fun fl s' => LeaveK h₀ L m g R (match fl with | .ret v => v | _ => .none) s')
        (fun e s' => wpAny (model prog w) (A.deeper (envOf qual scope L' f cdv)) (leaving (envOf qual scope L' f cdv) e) (fun _ s'' => R (.error e) s'') (fun e' s'' => R (.error e') s'') s')
        { s with heap := h₁, toks := s.toks + binds.length })
    (hco : scope.isCoroutine = false) (hgen : scope.isGenerator = false) (hk : scope.kind = .function)
    (hcell : ∀ x ∈ scope.names, x.2 ≠ .cell) : codeAny (model prog w) A (.call (.ref f) args) R s :=
  callX_plain (cl := []) B F N T.nolimit hA hf hke ((X₀.keeps F.keep) _ _ ho) rfl (codeRec_of (X₀.keeps F.keep) hcd) hroom hbind hloc (fun g L' h₁ FG F' N' B' st l => h g L' h₁ FG F' N' B' (X₀.keeps st) (T.keeps st) l) hcell hco hgen hk
section
variable {prog : Program} {w : World} {A : Around} {E : Value → Shared → Prop} {Q : Flow → Shared → Prop} {s : Shared} {env : Env} {h₀ : Heap} {L : Addr}
structure TEnd (h₀ : Heap) (L : Addr) (s : Shared) (m : Str → Option Value) (news : List (Addr × Obj)) (v b : Bool) (s₂ : Shared) : Prop where
  out : ∃ h' tk, s₂ = { s with heap := h', toks := tk } ∧ Fr h₀ L h' m ∧ News h₀ L h' news ∧ b = v
theorem While_upF {i : Str} {test : Expr} {body : List Stmt} {pos : Pos} {m : Str → Option Value} {news : List (Addr × Obj)} {k₀ K : Int} {t₀ : Tok} {c : Int → Bool}
    (F : Fr h₀ L s.heap m) (Nw : News h₀ L s.heap news) (hmi : m i = some (.int k₀ t₀))
    (gtest : ∀ k t h₁ tk₁, k₀ ≤ k → Fr h₀ L h₁ (bindM m i (some (.int k t))) → News h₀ L h₁ news →
      wpAny (model prog w) A (isTrue test env (eval test env)) (TEnd h₀ L s (bindM m i (some (.int k t))) news (c k)) E { s with heap := h₁, toks := tk₁ })
    (gturn : ∀ k t h₁ tk₁, k₀ ≤ k → c k = true → Fr h₀ L h₁ (bindM m i (some (.int k t))) → News h₀ L h₁ news →
      wpAny (model prog w) A (execs body env) (CntStep h₀ L s m i news (k + 1)) E { s with heap := h₁, toks := tk₁ })
    (stop : StopUp c k₀ K)
    (done : ∀ k t h' tk, k₀ ≤ k → (∀ j, k₀ ≤ j → j < k → c j = true) → c k = false → Fr h₀ L h' (bindM m i (some (.int k t))) → News h₀ L h' news → Q .next { s with heap := h', toks := tk })
    (hE : PassesOwn (model prog w) A env E := by passes_own) :
    wpAny (model prog w) A (exec (.While test body [] pos) env) Q E s := by
  have hm0 : m = bindM m i (some (.int k₀ t₀)) := by rw [← hmi]; exact bindM_start m i
  refine While_inv (fun n m₁ news₁ => ∃ k t, k₀ ≤ k ∧ k ≤ K ∧ (∀ j, k₀ ≤ j → j < k → c j = true) ∧ m₁ = bindM m i (some (.int k t)) ∧ news = news₁ ∧ n = (K - k).toNat)
    F Nw ⟨k₀, t₀, Int.le_refl _, stop.1, fun j h1 h2 => absurd h2 (by omega), hm0, rfl, rfl⟩ ?_
  rintro n m₁ news₁ h₁ tk₁ F₁ N₁ ⟨k, t, hk, hkK, hall, rfl, rfl, rfl⟩
  refine wpAny_mono (gtest k t h₁ tk₁ hk F₁ N₁) (fun b s₂ h₂ => ?_) fun _ _ e => e
  obtain ⟨h', tk, rfl, F₂, N₂, rfl⟩ := h₂.out
  cases hc : c k with
  | true =>
    rw [if_pos rfl]
    have hne : k ≠ K := fun e => by rw [e, stop.2] at hc; cases hc
    refine wpAny_mono (gturn k t h' tk hk hc F₂ N₂) (fun f s₃ h₃ => ?_) fun _ _ e => e
    obtain ⟨rfl, h'', tk'', t', rfl, F₃, N₃⟩ := h₃
    refine WhileStep.intro F₃ N₃ (n' := (K - (k + 1)).toNat) (by omega) ⟨k + 1, t', by omega, by omega, fun j h1 h2 => ?_, rfl, rfl, rfl⟩
    by_cases hj : j < k
    · exact hall j h1 hj
    · have e : j = k := by omega
      rw [e]; exact hc
  | false =>
    rw [if_neg (by simp)]
    exact done k t h' tk hk hall hc F₂ N₂
end
end
-- Fn
theorem off_Fn : True := by (w_top off; exact trivial)
section
theorem slot_fn_set : Slot "function" "__setattr__" "object.__setattr__" :=
  .of (owner := "object") (n := "__setattr__") (by rw [typeLookup_type, builtinLookup_eq_fast]; kernel_rfl) (by decide +kernel) (by decide +kernel) (by decide +kernel)
    (by first | exact .inl (by decide +kernel) | exact .inr (by decide +kernel)) (by rw [isSubtype_type]; kernel_rfl)
theorem fn_mro : mroOf (.type "function") = pure [.type "function", .type "object"] := by kernel_rfl
theorem fn_pass (self : Value) : refuseLoop self "__setattr__" [.type "function", .type "object"] = pure () := by kernel_rfl
theorem fn_span : typeLookup (.type "function") "span" = pure none := by rw [typeLookup_type, builtinLookup_eq_fast]; kernel_rfl
theorem fn_search : typeLookup (.type "function") "search" = pure none := by rw [typeLookup_type, builtinLookup_eq_fast]; kernel_rfl

noncomputable abbrev fnObj (d : Option Addr) (fd : FuncData) : Obj := { cls := .type "function", dict := d, data := .func fd }

section
variable {prog : Program} {w : World} {A : Around} {E : Value → Shared → Prop} {s : Shared} {h₀ : Heap} {L f : Addr} {m : Str → Option Value} {news : List (Addr × Obj)} {g : Obj → List (Addr × Obj)} {fd : FuncData} {name : Str} {v : Value}

theorem fn_setAttr {Q : Unit → Shared → Prop} (hn : typeLookup (.type "function") name = pure none) (F : Fr h₀ L s.heap m) (N : News h₀ L s.heap news) (U : UpdF f (fnObj none fd) news g)
    (h : ∀ d h', Fr h₀ L h' m → News h₀ L h' ((d, dictOf [⟨PyData.keyHash w.params name, .str name (s.toks + 1), v⟩] 1) :: g (fnObj (some d) fd)) → (∀ q ∈ news, q.1 < d) → Q () { s with heap := h', toks := s.toks + 2 }) :
    wpAny (model prog w) A (setAttr (.ref f) name v) Q E s := by
  obtain ⟨pre, post, rfl, hg, h1, h2⟩ := U.split
  have hm := N (f, fnObj none fd) (List.mem_append_right _ (.head _))
  have hT : ∀ tk, ({ s with toks := tk } : Shared).TypeIs (.ref f) "function" := fun _ => ⟨_, hm.1, rfl⟩
  unfold setAttr
  refine wpAny_bind (wpAny_mkText (wpAny_bind ?_))
  refine wpAny_callSpecial?_slot (hT _) slot_fn_set ?_
  refine wpAny_call_entry slot_fn_set (hT _) PySem.F.entry_object_sa ?_ (by unfold argsOk; kernel_rfl)
  rw [osa_eq, refuse_eq]
  refine wpAny_bind (wpAny_bind (wpAny_typeOf (hT _) (wpAny_bind (wpAny_of_eq fn_mro ?_))))
  rw [fn_pass]
  refine wpAny_pure (wpAny_bind (wpAny_typeOf (hT _) (wpAny_bind (wpAny_of_eq hn (wpAny_bind ?_)))))
  refine wpAny_pure ?_
  show wpAny _ _ (Builtin.ObjectAttr.storeInOwnDict (Value.ref f) (Value.type "function") (Value.str name s.toks) name v false) _ _ _
  unfold Builtin.ObjectAttr.storeInOwnDict
  refine wpAny_bind (m := ownStreamTells _ _) (wpAny_of_eq (a := ()) (by rfl) ?_)
  have hmod : (Value.type "function" == Value.type "module") = false := by decide
  simp only [hmod, Bool.false_eq_true, if_false]
  refine wpAny_bind (m := instanceDict f true) ?_
  unfold instanceDict
  refine wpAny_bind (wpAny_loadPart hm.1 ?_)
  dsimp only
  have htd : typeHasDict (Value.type "function") = true := by decide +kernel
  simp only [htd, Bool.not_true, Bool.or_false, Bool.false_eq_true, if_false]
  refine wpAny_bind (wpAny_alloc ?_)
  have F1 := F.push (o := { cls := .type "dict", data := .dict #[] })
  have N1 := N.push F { cls := .type "dict", data := .dict #[] }
  have hlt : ∀ q ∈ pre ++ (f, fnObj none fd) :: post, q.1 < s.heap.objs.size := fun q hq => Heap.lt_size (N q hq).1
  have hfl : f < s.heap.objs.size := hlt (f, fnObj none fd) (List.mem_append_right _ (.head _))
  have hd1 : ∀ q ∈ (s.heap.objs.size, ({ cls := .type "dict", data := .dict #[] } : Obj)) :: pre, q.1 ≠ f := fun q hq => by
    rcases List.mem_cons.mp hq with rfl | hq
    · exact Nat.ne_of_gt hfl
    · exact h1 q hq
  obtain ⟨F2, N2⟩ := news_upd (f := fun o : Obj => { o with dict := some s.heap.objs.size }) (o' := fnObj (some s.heap.objs.size) fd) F1 (pre := (s.heap.objs.size, ({ cls := .type "dict", data := .dict #[] } : Obj)) :: pre) N1 hd1 h2 rfl rfl
  have D2 := N2 (s.heap.objs.size, ({ cls := .type "dict", data := .dict #[] } : Obj)) (.head _)
  have hpost : ∀ q ∈ pre ++ (f, fnObj (some s.heap.objs.size) fd) :: post, q.1 ≠ s.heap.objs.size := fun q hq => by
    rcases List.mem_append.mp hq with hq | hq
    · exact Nat.ne_of_lt (hlt q (List.mem_append_left _ hq))
    · rcases List.mem_cons.mp hq with rfl | hq
      · exact Nat.ne_of_lt hfl
      · exact Nat.ne_of_lt (hlt q (List.mem_append_right _ (.tail _ hq)))
  obtain ⟨F3, N3⟩ := news_upd (f := Obj.putName name (PyData.keyHash w.params name) (.str name (s.toks + 1)) v) (o' := dictOf [⟨PyData.keyHash w.params name, .str name (s.toks + 1), v⟩] 1) F2 (pre := []) N2 (fun _ h => nomatch h) hpost
    (by rw [show ({ cls := .type "dict", data := .dict #[] } : Obj) = dictOf [] 0 from rfl, putName_dict]; rfl) rfl
  have D3 := N3 (s.heap.objs.size, dictOf [⟨PyData.keyHash w.params name, .str name (s.toks + 1), v⟩] 1) (.head _)
  refine wpAny_bind (wpAny_update (o := fnObj none fd) (Heap.get?_push_of_some _ hm.1) ?_)
  unfold dictMade
  have hfin : finalisedInACycleAlone "function" = false := by decide +kernel
  simp only [hfin, Bool.false_eq_true, if_false]
  refine wpAny_pure ?_
  dsimp only
  unfold Builtin.ObjectAttr.storeInDict
  refine wpAny_bind (m := Builtin.ObjectAttr.newKeyGuard _ _ _) (wpAny_of_eq (a := ()) rfl (wpAny_bind ?_))
  unfold nsSet
  refine wpAny_bind (wpAny_bind (wpAny_askSetting (wpAny_pure (wpAny_bind (wpAny_mkText (wpAny_bind (wpAny_loadPart D2.1 ?_)))))))
  dsimp only
  have c : (!(#[] : Array DictEntry).any (fun x => x.key.isStr name) && (#[] : Array DictEntry).any (fun x => x.refKey)) = false := by simp
  rw [aRefKeyMayBeTheName_at, c]
  refine wpAny_updatePart D2.1 ?_
  refine wpAny_bind (wpAny_lookBehind D3.1 (pastItsLine_dict (by rw [List.size_toArray, sizeLine_eq, List.length_singleton]; omega)) ?_)
  refine wpAny_pure ⟨_, rfl, wpAny_pure ?_⟩
  exact h _ _ F3 (hg _ ▸ N3) hlt

theorem slot_fn_ga : Slot "function" "__getattribute__" "object.__getattribute__" :=
  .of (owner := "object") (n := "__getattribute__") (by rw [typeLookup_type, builtinLookup_eq_fast]; kernel_rfl) (by decide +kernel) (by decide +kernel) (by decide +kernel)
    (by first | exact .inl (by decide +kernel) | exact .inr (by decide +kernel)) (by rw [isSubtype_type]; kernel_rfl)
theorem fn_nohook : typeLookup (.type "function") "__getattr__" = pure none := by rw [typeLookup_type, builtinLookup_eq_fast]; kernel_rfl
theorem fn_nobool : typeLookup (.type "function") "__bool__" = pure none := by rw [typeLookup_type, builtinLookup_eq_fast]; kernel_rfl
theorem fn_nolen : typeLookup (.type "function") "__len__" = pure none := by rw [typeLookup_type, builtinLookup_eq_fast]; kernel_rfl
theorem entry_oga : entryFor table "object.__getattribute__" = some Builtin.«object.__getattribute__» := entryFor_of_tree (by kernel_rfl)
theorem canon_oga : (Manifest.canonical "object.__getattribute__" != "object.__getattribute__") = false := by decide +kernel

theorem fn_truthy {Q : Bool → Shared → Prop} {o : Obj} (ho : s.heap.get? f = some o) (hc : o.cls = .type "function") (h : Q true s) : wpAny (model prog w) A (truthy (.ref f)) Q E s := by
  have hT : s.TypeIs (.ref f) "function" := ⟨_, ho, hc⟩
  unfold truthy
  refine wpAny_bind (wpAny_callSpecial?_none hT fn_nobool ?_)
  exact wpAny_bind (wpAny_specialOf hT fn_nolen (wpAny_pure h))

theorem nsGet_one {d : Addr} {tk : Tok} {hs : Int} {n : Nat} {Q : Option Value → Shared → Prop} (hd : s.heap.get? d = some (dictOf [⟨hs, .str name tk, v⟩] n)) (h : Q (some v) s) :
    wpAny (model prog w) A (nsGet d name) Q E s := by
  unfold nsGet
  refine wpAny_bind (wpAny_loadPart hd ?_)
  refine wpAny_of_eq (a := some v) ?_ h
  rw [nsLook_eq]
  unfold nsLookByArray
  simp [Value.isStr]

theorem fn_getMethod {Q : Value × List Value → Shared → Prop} {pl : Sem Bool} {d : Addr} {tk : Tok} {hs : Int} {n : Nat} (hn : typeLookup (.type "function") name = pure none) (ho : s.heap.get? f = some (fnObj (some d) fd)) (hd : s.heap.get? d = some (dictOf [⟨hs, .str name tk, v⟩] n)) (hv : handedIn v = true)
    (h : Q (v, []) { s with toks := s.toks + 1 }) : wpAny (model prog w) A (getMethod (.ref f) name pl) Q E s := by
  have hT : ∀ tk, ({ s with toks := tk } : Shared).TypeIs (.ref f) "function" := fun _ => ⟨_, ho, rfl⟩
  unfold getMethod
  refine wpAny_bind (wpAny_specialOf (hT _) slot_fn_ga.lookup ?_)
  dsimp only
  rw [canon_oga]
  refine wpAny_bind (m := specialOf _ _) (wpAny_specialOf (hT _) fn_nohook ?_)
  simp only [Option.isSome_none, Bool.false_eq_true, if_false]
  refine wpAny_bind (wpAny_specialOf (hT _) hn ?_)
  show wpAny _ _ (getAttr (Value.ref f) name >>= fun r => pure (r, [])) _ _ _
  unfold getAttr
  refine wpAny_bind (wpAny_bind (wpAny_mkText ?_))
  unfold getAttrBy
  refine wpAny_holding (wpAny_bind (wpAny_typeOf (hT _) (wpAny_bind (wpAny_of_eq slot_fn_ga.lookup ?_))))
  dsimp only
  unfold getAttrByItsOwn callGetattribute boundAndCalled hookBefore
  have hoh : onTheHeap (Value.type "function") = false := rfl
  have hob : onTheHeap (Value.builtin "object.__getattribute__") = false := rfl
  simp only [hoh, hob, Bool.false_and, Bool.false_eq_true, if_false]
  refine wpAny_bind (wpAny_pure (wpAny_bind (wpAny_attempt (wpAny_holding ?_))))
  rw [slot_fn_ga.bind]
  refine wpAny_bind (wpAny_pure ?_)
  refine wpAny_call_entry slot_fn_ga (hT _) entry_oga ?_ (by unfold argsOk; kernel_rfl)
  unfold Builtin.«object.__getattribute__»
  refine wpAny_bind (m := PySem.slotArgs "__getattribute__" 1 _) (wpAny_of_eq (a := (Value.ref f, [Value.str name s.toks])) (by rfl) ?_)
  dsimp only
  refine wpAny_bind (m := Builtin.ObjectAttr.attrName _) (wpAny_of_eq (a := name) (by rfl) ?_)
  refine wpAny_bind (wpAny_typeOf (hT _) ?_)
  unfold Builtin.ObjectAttr.find
  refine wpAny_bind (wpAny_bind (wpAny_of_eq hn ?_))
  refine wpAny_bind (m := Builtin.ObjectAttr.getOf none) (wpAny_pure ?_)
  refine wpAny_bind (m := Builtin.ObjectAttr.dataDescriptor? none none) (wpAny_pure ?_)
  dsimp only
  unfold Builtin.ObjectAttr.ownThenClass
  refine wpAny_bind (m := Builtin.ObjectAttr.inOwnDict name (.ref f)) ?_
  unfold Builtin.ObjectAttr.inOwnDict Builtin.ObjectAttr.ownDict loadHead
  refine wpAny_bind (wpAny_bind (wpAny_loadPart ho ?_))
  dsimp only
  unfold instanceDict
  refine wpAny_bind (wpAny_loadPart ho ?_)
  dsimp only
  refine wpAny_pure ?_
  unfold Builtin.ObjectAttr.inDict
  refine nsGet_one hd ?_
  refine wpAny_bind (wpAny_rule (wpAny_pure ?_))
  refine wpAny_pure ⟨_, rfl, ?_⟩
  try dsimp only
  rw [handedOut_of hv]
  exact wpAny_pure (wpAny_pure h)
end
end
-- LawHit
theorem off_LawHit : True := by (w_top off; exact trivial)
section
local macro_rules | `(tactic| k_all) => `(tactic| first | assumption | exact hs_ne (by assumption) (by omega) | exact List.forall_mem_nil _ | (refine' List.forall_mem_cons.mpr ⟨?a, ?b⟩; (case a => k_ne); (case b => k_all)))
theorem with_LawHit_1 : True := by
  (k_with "my LawHit 0" => (k_here; k_dflt (refine' fn_setAttr ?hn ?F ?N ?U ?_; (case hn => first | exact fn_span | exact fn_search); (case F => k_asm); (case N => k_asm); (case U => k_updF); k_whole); intro d' h' F' N' l1; (try dsimp only at N'); (try k_lt l1); (try k_sweep)))
  exact trivial
local macro_rules | `(tactic| walk_at "setAttr ref") => `(tactic| k_extra "my LawHit 0")
noncomputable def CodeIn (hs : List (Addr × Obj)) (c : Addr) (q : Str) : Prop := ∃ o vs t, (c, o) ∈ hs ∧ o.data = .fields vs ∧ vs[1]? = some (.str q t)
noncomputable abbrev qLam : Str := (Str.ofString "_law_hit" ++ ".<locals>.") ++ "<lambda>"
noncomputable def Tab119 (ps : Array Value) (hs : List (Addr × Obj)) : Prop :=
  ps = #[] ∨ ∃ c1 c2, ps = #[] ++ #[rawInt (133 : Nat), rawInt (10 : Nat), Value.ref c1] ++ #[rawInt (134 : Nat), rawInt (15 : Nat), Value.ref c2] ∧ CodeIn hs c1 qLam ∧ CodeIn hs c2 qLam

noncomputable def SpanIn (hs : List (Addr × Obj)) (f : Addr) (i j : Int) : Prop :=
  ∃ (c b1 b2 : Addr) (o1 o2 : Obj) (t1 t2 : Tok) (pm ctv : Value) (p1 p2 p3 : Pos),
    (f, kla_obj "<lambda>" qLam ⟨[], [], none, [], [], none, []⟩ (Expr.Tuple [Expr.Name "first" p1, Expr.Name "behind" p2] 0 p3)
      { kind := .function, names := [("behind", .free), ("first", .free)], isGenerator := false, isCoroutine := false } [("first", b1), ("behind", b2)] pm c ctv) ∈ hs ∧
    CodeIn hs c qLam ∧ (b1, o1) ∈ hs ∧ o1.data = .cell (some (.int i t1)) ∧ (b2, o2) ∈ hs ∧ o2.data = .cell (some (.int j t2))
noncomputable def HitIn (hs : List (Addr × Obj)) (r : Addr) (i j : Int) : Prop :=
  ∃ (d f : Addr) (tk : Tok) (fd : FuncData) (hsh : Int) (n : Nat),
    (r, fnObj (some d) fd) ∈ hs ∧ (d, dictOf [⟨hsh, .str "span" tk, .ref f⟩] n) ∈ hs ∧ SpanIn hs f i j

theorem news_front {h₀ h : Heap} {L : Addr} {l1 l2 : List (Addr × Obj)} {x : Addr × Obj} (N : News h₀ L h (l1 ++ x :: l2)) : News h₀ L h (x :: (l1 ++ l2)) := fun q hq => by
  rcases List.mem_cons.mp hq with rfl | hq
  · exact N _ (List.mem_append_right _ (.head _))
  · rcases List.mem_append.mp hq with hq | hq
    · exact N _ (List.mem_append_left _ hq)
    · exact N _ (List.mem_append_right _ (.tail _ hq))

theorem law_hit_spec {w : World} {p : Program} {loose : List Str} {mean : ExcName → Option Value} {mg mb : Str → Option Value}
  {dp un : Nat} {gd : Option (List Code)} {cn : Str} {cs : Scope} {a : Addr} {ccd : Value} {cl : List (Str × Addr)} {outer : List Env} {A₀ : Around} {base h₀ : Heap} {L : Addr} {m : Str → Option Value} {s : Shared} {Q E : Value → Shared → Prop}
  {i j : Int} {t1 t2 : Tok} {ps : Array Value} {hs : List (Addr × Obj)}
  (B : Below A₀ base outer h₀) (F : Fr h₀ L s.heap m) (X : (hd.heap_39 w.params).In h₀) (N : News h₀ L s.heap ((119, tabObj ps) :: hs)) (T : Top p loose mean mg mb h₀) (hk : cs.kind = .function)
  (C1 : CodeHd base 123 119) (hne : ∀ q ∈ hs, q.1 ≠ 119) (hps : Tab119 ps hs)
  (hd : dp + 1 < recursionLimit) (hu : un + 8 < cLine)
  (hret : ∀ r ps' hs' h' tk', Fr h₀ L h' m → News h₀ L h' ((119, tabObj ps') :: hs') → (∀ q ∈ hs, q ∈ hs') → (∀ q ∈ hs', q.1 ≠ 119) → Tab119 ps' hs' → HitIn hs' r i j → Q (.ref r) { s with heap := h', toks := tk' }) :
  wpAny (model PySem.Challenge.rw_ij0072_01.row.prog w) (ktrTop dp un gd cn cs L a ccd cl outer) (call (.ref 124) [.int i t1, .int j t2]) Q E s := by
  have hfill : PySem.Challenge.rw_ij0072_01 = PySem.Challenge.rw_ij0072_01 → Mine.hd.heap_39 = Mine.hd.heap_39 → True := by
    k_fill
    intros; trivial
  clear hfill
  rcases hps with rfl | ⟨c1, c2, rfl, ⟨o1, v1, s1, hc1, hd1, hv1⟩, ⟨o2, v2, s2, hc2, hd2, hv2⟩⟩
  · refine wpAny_call ?_
    k_dflt (refine' code_defC ?k1 ?k2 ?k3 ?k4 ?k5 ?kA ?kF ?kK ?k6 ?k7 ?k8 ?k9 ?kB ?kD ?_ ?c2 ?c3 ?c4; (case kA => exact rfl); (case kF => exact rfl); (case kK => assumption); (case k1 => k_asm); (case k2 => k_asm); (case k3 => k_asm); (case k4 => k_asm); (case k5 => k_asm); (case k6 => k_is); (case k7 => k_is); (case k8 => k_room); (case k9 => exact BindsTo.of_eq (binds := [(Str.ofString "first", .int i t1), (Str.ofString "behind", .int j t2)]) rfl); (case kB => exact rfl); (case kD => decide +kernel); (case c2 => exact rfl); (case c3 => exact rfl); (case c4 => exact rfl); k_whole; intro g' L' h' tk' cells' FG' F' N' Y' B' X' T' l1; (replace l1 := allLt_of l1); (obtain ⟨l1, hA⟩ := l1); k_cells Y'; (try simp only [List.cons_append, List.nil_append] at N'); (try dsimp only); (try k_fold))
    dsimp only at l1
    k_steps
    rename_i kF kN _ _
    have N9 := news_front (l1 := [_, _, _, _, _, _, _]) kN
    refine hret _ _ _ _ _ (by k_asm) N9 (fun q hq => List.mem_append_right _ hq) (by simp only [List.cons_append, List.nil_append]; k_all) ?_ ?_
    · exact .inr ⟨_, _, rfl, ⟨_, _, _, by k_mem, by assumption, by assumption⟩, ⟨_, _, _, by k_mem, by assumption, by assumption⟩⟩
    · exact ⟨_, _, _, _, _, _, by k_mem, by k_mem, ⟨_, _, _, _, _, _, _, _, _, _, _, _, by k_mem, ⟨_, _, _, by k_mem, by assumption, by assumption⟩, by k_mem, by assumption, by k_mem, by assumption⟩⟩
  · refine wpAny_call ?_
    k_dflt (refine' code_defC ?k1 ?k2 ?k3 ?k4 ?k5 ?kA ?kF ?kK ?k6 ?k7 ?k8 ?k9 ?kB ?kD ?_ ?c2 ?c3 ?c4; (case kA => exact rfl); (case kF => exact rfl); (case kK => assumption); (case k1 => k_asm); (case k2 => k_asm); (case k3 => k_asm); (case k4 => k_asm); (case k5 => k_asm); (case k6 => k_is); (case k7 => k_is); (case k8 => k_room); (case k9 => exact BindsTo.of_eq (binds := [(Str.ofString "first", .int i t1), (Str.ofString "behind", .int j t2)]) rfl); (case kB => exact rfl); (case kD => decide +kernel); (case c2 => exact rfl); (case c3 => exact rfl); (case c4 => exact rfl); k_whole; intro g' L' h' tk' cells' FG' F' N' Y' B' X' T' l1; (replace l1 := allLt_of l1); (obtain ⟨l1, hA⟩ := l1); k_cells Y'; (try simp only [List.cons_append, List.nil_append] at N'); (try dsimp only); (try k_fold))
    dsimp only at l1
    k_steps
    rename_i kF kN _ _
    have N9 := news_front (l1 := [_, _, _, _, _]) kN
    refine hret _ _ _ _ _ (by k_asm) N9 (fun q hq => List.mem_append_right _ hq) (by simp only [List.cons_append, List.nil_append]; k_all) ?_ ?_
    · exact .inr ⟨_, _, rfl, ⟨_, _, _, by k_mem, by assumption, by assumption⟩, ⟨_, _, _, by k_mem, by assumption, by assumption⟩⟩
    · exact ⟨_, _, _, _, _, _, by k_mem, by k_mem, ⟨_, _, _, _, _, _, _, _, _, _, _, _, by k_mem, ⟨_, _, _, by k_mem, by assumption, by assumption⟩, by k_mem, by assumption, by k_mem, by assumption⟩⟩
end
-- LawProg
theorem off_LawProg : True := by (w_top off; exact trivial)
section
local macro_rules | `(tactic| walk_at "never") => `(tactic| fail)
local macro_rules | `(tactic| walk_at "never") => `(tactic| fail)
local macro_rules | `(tactic| k_all) => `(tactic| first | assumption | exact hs_ne (by assumption) (by omega) | exact List.forall_mem_nil _ | (refine' List.forall_mem_cons.mpr ⟨?a, ?b⟩; (case a => k_ne); (case b => k_all)))
theorem with_LawProg_1 : True := by
  (k_with "my LawProg 0" => (k_here; k_dflt (refine' fn_setAttr ?hn ?F ?N ?U ?_; (case hn => first | exact fn_span | exact fn_search); (case F => k_asm); (case N => k_asm); (case U => k_updF); k_whole); intro d' h' F' N' l1; (try dsimp only at N'); (try k_lt l1); (try k_sweep)))
  exact trivial
local macro_rules | `(tactic| walk_at "setAttr ref") => `(tactic| k_extra "my LawProg 0")
noncomputable def lpObj : { o : Obj // ∀ P : Params, List.lookup 131 (Mine.hd.heap_39 P) = some o } := ⟨_, fun P => by
  have hfill : PySem.Challenge.rw_ij0072_01 = PySem.Challenge.rw_ij0072_01 → Mine.hd.heap_39 = Mine.hd.heap_39 → True := by
    k_fill
    intros; trivial
  clear hfill
  show List.lookup 131 (Mine.hd.heap_39 P) = some _
  k_is⟩
noncomputable def srch : { q : Arguments × List Stmt × Scope // (match lpObj.1.data with | .func fd => (match fd.body with | .stmts (.FunctionDef _ a b _ _ _ sc _ _ _ :: _) => some (a, b, sc) | _ => none) | _ => none) = some q } := ⟨_, rfl⟩

noncomputable abbrev qSearch : Str := (Str.ofString "_law_prog" ++ ".<locals>.") ++ "search"
noncomputable def SearchIn (hs : List (Addr × Obj)) (f : Addr) : Prop := ∃ (dT : Addr) (tz : Tok) (doc pm : Value) (c : Addr) (ctv : Value),
  (f, kdv_obj "search" qSearch srch.1.1 (.stmts srch.1.2.1) srch.1.2.2 [] (.ref dT) doc pm c ctv) ∈ hs ∧ CodeIn hs c qSearch ∧ (dT, kdv_tup [.int 0 tz]) ∈ hs
noncomputable def ProgIn (hs : List (Addr × Obj)) (r f : Addr) : Prop := ∃ (d : Addr) (fd : FuncData) (hsh : Int) (tk : Tok) (n : Nat),
  (r, fnObj (some d) fd) ∈ hs ∧ (d, dictOf [⟨hsh, .str "search" tk, .ref f⟩] n) ∈ hs ∧ SearchIn hs f
theorem CodeIn.mono {hs hs' : List (Addr × Obj)} {c : Addr} {q : Str} (x : CodeIn hs c q) (h : ∀ p ∈ hs, p ∈ hs') : CodeIn hs' c q :=
  let ⟨o, vs, t, a, b⟩ := x; ⟨o, vs, t, h _ a, b⟩
theorem SearchIn.mono {hs hs' : List (Addr × Obj)} {f : Addr} (x : SearchIn hs f) (h : ∀ p ∈ hs, p ∈ hs') : SearchIn hs' f :=
  let ⟨dT, tz, doc, pm, c, ctv, a, b, d⟩ := x; ⟨dT, tz, doc, pm, c, ctv, h _ a, b.mono h, h _ d⟩
theorem ProgIn.mono {hs hs' : List (Addr × Obj)} {r f : Addr} (x : ProgIn hs r f) (h : ∀ p ∈ hs, p ∈ hs') : ProgIn hs' r f :=
  let ⟨d, fd, hsh, tk, n, a, b, c⟩ := x; ⟨d, fd, hsh, tk, n, h _ a, h _ b, c.mono h⟩
theorem SpanIn.mono {hs hs' : List (Addr × Obj)} {f : Addr} {i j : Int} (x : SpanIn hs f i j) (h : ∀ p ∈ hs, p ∈ hs') : SpanIn hs' f i j :=
  let ⟨c, b1, b2, o1, o2, t1, t2, pm, ctv, p1, p2, p3, a3, a4, a5, a6, a7, a8⟩ := x
  ⟨c, b1, b2, o1, o2, t1, t2, pm, ctv, p1, p2, p3, h _ a3, a4.mono h, h _ a5, a6, h _ a7, a8⟩
theorem HitIn.mono {hs hs' : List (Addr × Obj)} {r : Addr} {i j : Int} (x : HitIn hs r i j) (h : ∀ p ∈ hs, p ∈ hs') : HitIn hs' r i j :=
  let ⟨d, f, tk, fd, hsh, n, a1, a2, a3⟩ := x
  ⟨d, f, tk, fd, hsh, n, h _ a1, h _ a2, a3.mono h⟩
section
variable {prog : Program} {w : World} {A : Around} {E : Value → Shared → Prop} {s : Shared} {h₀ : Heap} {L : Addr} {m : Str → Option Value} {news hs : List (Addr × Obj)}
theorem prog_getMethod {Q : Value × List Value → Shared → Prop} {pl : Sem Bool} {P f : Addr} (N : News h₀ L s.heap news) (hP : ProgIn hs P f) (hsub : ∀ q ∈ hs, q ∈ news)
    (h : Q (.ref f, []) { s with toks := s.toks + 1 }) : wpAny (model prog w) A (getMethod (.ref P) "search" pl) Q E s := by
  obtain ⟨d, fd, hsh, tk, n, a, b, _⟩ := hP
  exact fn_getMethod fn_search (N.get (hsub _ a)) (N.get (hsub _ b)) rfl h
theorem hit_getMethod {Q : Value × List Value → Shared → Prop} {pl : Sem Bool} {r : Addr} {i j : Int} (N : News h₀ L s.heap news) (hH : HitIn hs r i j) (hsub : ∀ q ∈ hs, q ∈ news)
    (h : ∀ f, SpanIn hs f i j → Q (.ref f, []) { s with toks := s.toks + 1 }) : wpAny (model prog w) A (getMethod (.ref r) "span" pl) Q E s := by
  obtain ⟨d, f, tk, fd, hsh, n, a, b, c⟩ := hH
  exact fn_getMethod fn_span (N.get (hsub _ a)) (N.get (hsub _ b)) rfl (h f c)
theorem hit_truthy {Q : Bool → Shared → Prop} {r : Addr} {i j : Int} (N : News h₀ L s.heap news) (hH : HitIn hs r i j) (hsub : ∀ q ∈ hs, q ∈ news)
    (h : Q true s) : wpAny (model prog w) A (truthy (.ref r)) Q E s := by
  obtain ⟨d, f, tk, fd, hsh, n, a, b, c⟩ := hH
  exact fn_truthy (N.get (hsub _ a)) rfl h
theorem fnAt_search {h : Heap} {f : Addr} (N : News h₀ L h news) (hS : SearchIn hs f) (hsub : ∀ q ∈ hs, q ∈ news) : FnAt f h := by
  obtain ⟨dT, tz, doc, pm, c, ctv, a, _⟩ := hS
  exact ⟨_, _, _, _, N.get (hsub _ a)⟩
theorem fnAt_span {h : Heap} {f : Addr} {i j : Int} (N : News h₀ L h news) (hS : SpanIn hs f i j) (hsub : ∀ q ∈ hs, q ∈ news) : FnAt f h := by
  obtain ⟨c, b1, b2, o1, o2, t1, t2, pm, ctv, p1, p2, p3, a3, _⟩ := hS
  exact ⟨_, _, _, _, N.get (hsub _ a3)⟩
end

theorem law_prog_spec {w : World} {p : Program} {loose : List Str} {mean : ExcName → Option Value} {mg mb : Str → Option Value}
  {dp un : Nat} {gd : Option (List Code)} {cn : Str} {cs : Scope} {a : Addr} {ccd : Value} {cl : List (Str × Addr)} {outer : List Env} {A₀ : Around} {base h₀ : Heap} {L : Addr} {m : Str → Option Value} {s : Shared} {Q E : Value → Shared → Prop}
  {hs : List (Addr × Obj)}
  (B : Below A₀ base outer h₀) (F : Fr h₀ L s.heap m) (X : (hd.heap_39 w.params).In h₀) (N : News h₀ L s.heap ((126, tabObj #[]) :: hs)) (T : Top p loose mean mg mb h₀) (hk : cs.kind = .function)
  (C2 : CodeHd base 130 126) (hne : ∀ q ∈ hs, q.1 ≠ 126) 
  (hd : dp + 1 < recursionLimit) (hu : un + 8 < cLine)
  (hret : ∀ r f ps' tl h' tk', Fr h₀ L h' m → News h₀ L h' ((126, tabObj ps') :: (tl ++ hs)) → (∀ q ∈ tl, @LT.lt Nat _ 126 q.1) → ProgIn tl r f → Q (.ref r) { s with heap := h', toks := tk' }) :
  wpAny (model PySem.Challenge.rw_ij0072_01.row.prog w) (ktrTop dp un gd cn cs L a ccd cl outer) (call (.ref 131) []) Q E s := by
  have hfill : PySem.Challenge.rw_ij0072_01 = PySem.Challenge.rw_ij0072_01 → Mine.hd.heap_39 = Mine.hd.heap_39 → True := by
    k_fill
    intros; trivial
  clear hfill
  refine wpAny_call ?_
  k_dflt (refine' code_defL ?k1 ?k2 ?k3 ?k4 ?k5 ?kA ?kF ?kK ?k6 ?k7 ?k8 ?k9 ?kB ?_ ?c2 ?c3 ?c4 ?c5; (case kA => exact rfl); (case kF => exact rfl); (case kK => assumption); (case k1 => k_asm); (case k2 => k_asm); (case k3 => k_asm); (case k4 => k_asm); (case k5 => k_asm); (case k6 => k_is); (case k7 => k_is); (case k8 => k_room); (case k9 => exact BindsTo.of_eq (binds := []) rfl); (case c5 => decide); (case kB => exact locs rfl); (case c2 => exact rfl); (case c3 => exact rfl); (case c4 => exact rfl); k_whole; intro g' L' h' FG' F' N' B' X' T' l1; (replace l1 := allLt_of l1); (obtain ⟨l1, hA⟩ := l1); (try dsimp only); (try k_fold))
  dsimp only at l1
  k_steps
  rename_i kF kN _ _
  have N9 := news_front (l1 := [_, _, _, _, _, _]) kN
  refine' hret _ _ _ _ _ _ (by k_asm) N9 ?a ?b
  case b => exact ⟨_, _, _, _, _, by k_mem, by k_mem, ⟨_, _, _, _, _, _, by k_mem, ⟨_, _, _, by k_mem, by assumption, by assumption⟩, by k_mem⟩⟩
  case a =>
    intro q hq
    simp only [List.mem_cons, List.not_mem_nil, or_false] at hq
    rcases hq with rfl | rfl | rfl | rfl | rfl | rfl <;> dsimp only <;> omega
end
-- Plain
theorem off_Plain : True := by (w_top off; exact trivial)
section
/-- the signs of a text -/
noncomputable abbrev sg (x : Str) : List Nat := x.cps.toList
/-- the first place at or behind k that holds no slash -/
noncomputable def fNS (l : List Nat) (k : Nat) : Nat := k + ((l.drop k).takeWhile (· == 47)).length
/-- the first place at or behind k that holds a slash, or the end -/
noncomputable def fSl (l : List Nat) (k : Nat) : Nat := k + ((l.drop k).takeWhile (· != 47)).length

theorem sliceIdx_beyond {k j : Int} (len : Nat) (hk : 0 ≤ k) (hj : 0 ≤ j) (h : (len : Int) ≤ k) : Builtin.Str.strSliceIndices (some k) (some j) 1 len = [] := by
  have a1 : ¬ k < 0 := by omega
  have a2 : ¬ j < 0 := by omega
  have e1 : max (0 : Int) (min k (len : Int)) = len := by omega
  have e3 : ¬ ((len : Int) < max 0 (min j (len : Int))) := by omega
  simp only [Builtin.Str.strSliceIndices, PySem.sliceRange, a1, a2, if_false, e1, show (1 : Int) > 0 by decide, if_true, e3]
  simp
theorem slice_one (x : Str) (k : Int) (hk : 0 ≤ k) : Txt.slice x (some k) (some (k + 1)) = ⟨((sg x)[k.toNat]?).toList.toArray⟩ := by
  by_cases h : k + 1 ≤ (x.cps.toList.length : Int)
  · have e := eq_of_beq (slice_closes (x := x) (i := k) (j := k + 1) ⟨hk, by omega, h⟩)
    rw [e]
    have e1 : (k + 1 - k).toNat = 1 := by omega
    rw [e1]
    congr 2
    have hlt : k.toNat < x.cps.toList.length := by omega
    rw [List.drop_eq_getElem_cons hlt, List.getElem?_eq_getElem hlt]
    simp
  · have hlt : x.cps.toList.length ≤ k.toNat := by omega
    have hl : x.length = x.cps.toList.length := by simp [Str.length]
    rw [show (sg x)[k.toNat]? = none from List.getElem?_eq_none hlt]
    unfold Txt.slice
    rw [sliceIdx_beyond x.length hk (by omega) (by omega)]
    split
    · rename_i hc
      simp at hc
      have hx : x.cps.toList = [] := by apply List.eq_nil_of_length_eq_zero; omega
      have : x.cps = #[] := Array.toList_inj.mp (by simpa using hx)
      cases x; simp_all
    · simp
theorem sl_str : (Str.ofString "/") = ⟨#[47]⟩ := by decide +kernel
theorem em_str : (Str.ofString "") = ⟨#[]⟩ := by decide +kernel

noncomputable def cSl (x : Str) (k : Int) : Bool := (Txt.slice x (some k) (some (k + 1)) == Str.ofString "/")
noncomputable def cNo (x : Str) (k : Int) : Bool := !([Str.ofString "", Str.ofString "/"].any fun y => y == Txt.slice x (some k) (some (k + 1)))
theorem cSl_eq (x : Str) (k : Int) (hk : 0 ≤ k) : cSl x k = decide ((sg x)[k.toNat]? = some 47) := by
  unfold cSl
  rw [slice_one x k hk, sl_str]
  cases h : (sg x)[k.toNat]? with
  | none => simp
  | some c => 
    simp only [Option.toList_some, Option.some.injEq]
    rw [Bool.eq_iff_iff]
    simp
theorem cNo_eq (x : Str) (k : Int) (hk : 0 ≤ k) : cNo x k = decide (∃ c, (sg x)[k.toNat]? = some c ∧ c ≠ 47) := by
  unfold cNo
  rw [slice_one x k hk, sl_str, em_str]
  cases h : (sg x)[k.toNat]? with
  | none => simp
  | some c => 
    rw [Bool.eq_iff_iff]
    simp
    omega
theorem stop_sl (x : Str) (k : Nat) : StopUp (cSl x) k (max k x.length) := by
  refine ⟨by omega, ?_⟩
  have hl : x.length = x.cps.toList.length := by simp [Str.length]
  rw [cSl_eq _ _ (by omega), List.getElem?_eq_none (by show x.cps.toList.length ≤ _; omega)]
  simp
theorem stop_no (x : Str) (k : Nat) : StopUp (cNo x) k (max k x.length) := by
  refine ⟨by omega, ?_⟩
  have hl : x.length = x.cps.toList.length := by simp [Str.length]
  rw [cNo_eq _ _ (by omega), List.getElem?_eq_none (by show x.cps.toList.length ≤ _; omega)]
  simp

theorem tw_unique {p : Nat → Bool} : ∀ (l : List Nat) (n : Nat), (∀ j, j < n → ∃ c, l[j]? = some c ∧ p c = true) → (∀ c, l[n]? = some c → p c = false) → (l.takeWhile p).length = n
  | [], 0, _, _ => rfl
  | [], n + 1, h, _ => by obtain ⟨c, hc, _⟩ := h 0 (by omega); simp at hc
  | a :: r, 0, _, h2 => by
    have := h2 a rfl
    simp [List.takeWhile_cons, this]
  | a :: r, n + 1, h, h2 => by
    obtain ⟨c, hc, hp⟩ := h 0 (by omega)
    simp at hc; subst hc
    rw [List.takeWhile_cons, hp]
    simp only [if_true, List.length_cons]
    rw [tw_unique r n (fun j hj => by have := h (j + 1) (by omega); simpa using this) (fun c hc => h2 c (by simpa using hc))]

theorem fNS_of (x : Str) (k0 : Nat) (k : Int) (h0 : (k0 : Int) ≤ k) (h1 : ∀ j : Int, k0 ≤ j → j < k → cSl x j = true) (h2 : cSl x k = false) : k = fNS (sg x) k0 := by
  unfold fNS
  rw [cSl_eq x k (by omega)] at h2
  have := tw_unique (p := (· == 47)) ((sg x).drop k0) (k.toNat - k0) (fun j hj => by
    have e := h1 (k0 + j) (by omega) (by omega)
    rw [cSl_eq x _ (by omega)] at e
    have e' := of_decide_eq_true e
    refine ⟨47, ?_, rfl⟩
    rw [List.getElem?_drop]
    rw [← e']
    congr 1) (fun c hc => by
      rw [List.getElem?_drop, show k0 + (k.toNat - k0) = k.toNat by omega] at hc
      rw [hc] at h2
      have := of_decide_eq_false h2
      simpa using this)
  rw [this]; omega
theorem fSl_of (x : Str) (k0 : Nat) (k : Int) (h0 : (k0 : Int) ≤ k) (h1 : ∀ j : Int, k0 ≤ j → j < k → cNo x j = true) (h2 : cNo x k = false) : k = fSl (sg x) k0 := by
  unfold fSl
  rw [cNo_eq x k (by omega)] at h2
  have := tw_unique (p := (· != 47)) ((sg x).drop k0) (k.toNat - k0) (fun j hj => by
    have e := h1 (k0 + j) (by omega) (by omega)
    rw [cNo_eq x _ (by omega)] at e
    obtain ⟨c, hc, hn⟩ := of_decide_eq_true e
    refine ⟨c, ?_, by simpa using hn⟩
    rw [List.getElem?_drop, ← hc]
    congr 1) (fun c hc => by
      rw [List.getElem?_drop, show k0 + (k.toNat - k0) = k.toNat by omega] at hc
      have := of_decide_eq_false h2
      by_cases hcc : c = 47
      · subst hcc; rfl
      · exact absurd ⟨c, hc, hcc⟩ this)
  rw [this]; omega

/-- the walk of search_reverse: from the present hit i, j and what was found, to what is told -/
inductive SR (l : List Nat) (col : Nat) : Nat → Nat → Option (Nat × Nat) → Option (Nat × Nat) → Prop
  | stop {i j fd} : ¬ (i < col ∧ j ≤ col) → SR l col i j fd fd
  | last {i j fd} : i < col → j ≤ col → ¬ (fNS l j < fSl l (fNS l j)) → SR l col i j fd (some (i, j))
  | next {i j fd r} : i < col → j ≤ col → fNS l j < fSl l (fNS l j) → SR l col (fNS l j) (fSl l (fNS l j)) (some (i, j)) r → SR l col i j fd r
noncomputable def SRes (l : List Nat) (col : Nat) (fd : Option (Nat × Nat)) : Prop :=
  (¬ (fNS l 0 < fSl l (fNS l 0)) ∧ fd = none) ∨ (fNS l 0 < fSl l (fNS l 0) ∧ SR l col (fNS l 0) (fSl l (fNS l 0)) none fd)
theorem fNS_ge (l : List Nat) (k : Nat) : k ≤ fNS l k := Nat.le_add_right _ _
theorem fSl_ge (l : List Nat) (k : Nat) : k ≤ fSl l k := Nat.le_add_right _ _
theorem fSl_le {l : List Nat} {i : Nat} (h : i < fSl l i) : fSl l i ≤ l.length := by
  unfold fSl at *
  have h1 := (List.takeWhile_sublist (fun x => x != 47) (l := l.drop i)).length_le
  rw [List.length_drop] at h1
  omega
theorem fSl_le' {x : Str} {i : Nat} (h : i < fSl (sg x) i) : fSl (sg x) i ≤ x.length := by
  have := fSl_le h
  simpa [Str.length] using this
end
-- Span
theorem off_Span : True := by (w_top off; exact trivial)
section
noncomputable abbrev tup2 (i j : Int) (ti tj : Tok) : Obj := { cls := .type "tuple", data := .seq [Value.int i ti, Value.int j tj].toArray }
theorem span_spec {w : World} {p : Program} {loose : List Str} {mean : ExcName → Option Value} {mg mb : Str → Option Value}
  {dp un : Nat} {gd : Option (List Code)} {cn : Str} {cs : Scope} {a : Addr} {ccd : Value} {cl : List (Str × Addr)} {outer : List Env} {A₀ : Around} {base h₀ : Heap} {L : Addr} {m : Str → Option Value} {s : Shared} {Q E : Value → Shared → Prop}
  {hs news : List (Addr × Obj)} {f : Addr} {i j : Int}
  (B : Below A₀ base outer h₀) (F : Fr h₀ L s.heap m) (X : (hd.heap_39 w.params).In h₀) (N : News h₀ L s.heap news) (T : Top p loose mean mg mb h₀) (hk : cs.kind = .function)
  (hS : SpanIn hs f i j) (hsub : ∀ q ∈ hs, q ∈ news) (C1 : CodeHd base 123 119)
  (hd : dp + 1 < recursionLimit) (hu : un + 8 < cLine)
  (hret : ∀ t ti tj h' tk', Fr h₀ L h' m → News h₀ L h' ((t, tup2 i j ti tj) :: news) → Q (.ref t) { s with heap := h', toks := tk' }) :
  wpAny (model PySem.Challenge.rw_ij0072_01.row.prog w) (ktrTop dp un gd cn cs L a ccd cl outer) (call (.ref f) []) Q E s := by
  have hfill : PySem.Challenge.rw_ij0072_01 = PySem.Challenge.rw_ij0072_01 → Mine.hd.heap_39 = Mine.hd.heap_39 → True := by
    k_fill
    intros; trivial
  clear hfill
  obtain ⟨c, b1, b2, o1, o2, t1, t2, pm, ctv, p1, p2, p3, a3, ⟨oc, vs, tc, hc1, hc2, hc3⟩, a5, a6, a7, a8⟩ := hS
  replace a3 := hsub _ a3
  replace a5 := hsub _ a5
  replace a7 := hsub _ a7
  replace hc1 := hsub _ hc1
  refine wpAny_call ?_
  k_dflt (refine' kla_code B F X N T ?kA ?kF ?kK a3 ?k7 ?k8 ?k9 ?kB ?_ ?c2 ?c3 ?c4 ?c5; (case kA => exact rfl); (case kF => exact rfl); (case kK => assumption); (case k7 => exact codeRec_news N hc1 hc2 hc3); (case k8 => k_room); (case k9 => exact rfl); (case c5 => decide); (case kB => exact locs rfl); (case c2 => exact rfl); (case c3 => exact rfl); (case c4 => exact rfl); k_whole; intro g' L' h' FG' F' N' B' X' T'; (try dsimp only); (try k_fold))
  k_steps
  exact hret _ _ _ _ _ (by assumption) (by assumption)
end
-- Search
theorem off_Search : True := by (w_top off; exact trivial)
section
local macro_rules | `(tactic| walk_at "never") => `(tactic| fail)
theorem with_Search_1 : True := by
  (k_with "my Search 0" => (k_here; (with_reducible show wpAny _ _ (call (Value.ref 124) _) _ _ _); k_dflt (refine' law_hit_spec ?B ?F ?X ?N ?T ?hk ?C1 ?hne ?hps ?hd ?hu ?_; (case B => k_asm); (case F => k_asm); (case X => k_asm); (case N => k_asm); (case T => k_asm); (case hk => exact rfl); (case C1 => k_asm); (case hne => k_asm); (case hps => k_asm); (case hd => ktr_room); (case hu => ktr_units); intro r' ps' hs' h' tk' F' N' hsub' hne' hps' hH'; (try dsimp only); (try k_fold))))
  exact trivial
local macro_rules | `(tactic| walk_at "call ref") => `(tactic| k_extra "my Search 0")

theorem search_core {w : World} {p : Program} {loose : List Str} {mean : ExcName → Option Value} {mg mb : Str → Option Value}
  {dp un : Nat} {gd : Option (List Code)} {cn : Str} {cs : Scope} {a : Addr} {ccd : Value} {cl : List (Str × Addr)} {outer : List Env} {A₀ : Around} {base h₀ : Heap} {L : Addr} {m : Str → Option Value} {s : Shared} {Q E : Value → Shared → Prop}
  {ps : Array Value} {hs : List (Addr × Obj)} {f : Addr} {nm : Str} {k : Nat} {t : Tok} {args : List Value}
  (B : Below A₀ base outer h₀) (F : Fr h₀ L s.heap m) (X : (hd.heap_39 w.params).In h₀) (N : News h₀ L s.heap ((119, tabObj ps) :: hs)) (T : Top p loose mean mg mb h₀) (hk : cs.kind = .function)
  (C1 : CodeHd base 123 119) (hne : ∀ q ∈ hs, q.1 ≠ 119) (hps : Tab119 ps hs) (hS : SearchIn hs f) (hsz : nm.length ≤ 1000)
  (hargs : (∃ t2, args = [.str nm t, .int k t2]) ∨ (args = [.str nm t] ∧ k = 0))
  (hd : dp + 2 < recursionLimit) (hu : un + 16 < cLine)
  (hnone : ∀ h' tk', ¬ (fNS (sg nm) k < fSl (sg nm) (fNS (sg nm) k)) → Fr h₀ L h' m → News h₀ L h' ((119, tabObj ps) :: hs) → Q .none { s with heap := h', toks := tk' })
  (hret : ∀ r ps' hs' h' tk', fNS (sg nm) k < fSl (sg nm) (fNS (sg nm) k) → Fr h₀ L h' m → News h₀ L h' ((119, tabObj ps') :: hs') → (∀ q ∈ hs, q ∈ hs') → (∀ q ∈ hs', q.1 ≠ 119) → Tab119 ps' hs' →
    HitIn hs' r (fNS (sg nm) k : Nat) (fSl (sg nm) (fNS (sg nm) k) : Nat) → Q (.ref r) { s with heap := h', toks := tk' }) :
  wpAny (model PySem.Challenge.rw_ij0072_01.row.prog w) (ktrTop dp un gd cn cs L a ccd cl outer) (call (.ref f) args) Q E s := by
  have hfill : PySem.Challenge.rw_ij0072_01 = PySem.Challenge.rw_ij0072_01 → Mine.hd.heap_39 = Mine.hd.heap_39 → True := by
    k_fill
    intros; trivial
  clear hfill
  obtain ⟨dT, tz, doc, pm, c, ctv, hf, ⟨oc, vs, tc, hc1, hc2, hc3⟩, hdT⟩ := hS
  have hb : ∃ tk', BindsTo s (kdv_fn "search" qSearch srch.1.1 (.stmts srch.1.2.1) srch.1.2.2 [] (.ref dT) doc pm (.ref c) ctv) ⟨args, []⟩ [(Str.ofString "name", .str nm t), (Str.ofString "start", .int k tk')] := by
    rcases hargs with ⟨t2, rfl⟩ | ⟨rfl, rfl⟩
    · exact ⟨t2, kdv_binds N (List.Mem.tail _ hdT) rfl rfl rfl⟩
    · exact ⟨tz, kdv_binds N (List.Mem.tail _ hdT) rfl rfl rfl⟩
  obtain ⟨tk', hb⟩ := hb
  refine wpAny_call ?_
  k_dflt (refine' kdv_code ?k1 ?k2 ?k3 ?k4 ?k5 ?kA ?kF ?kK (List.Mem.tail _ hf) ?k7 ?k8 hb ?kB ?_ ?c2 ?c3 ?c4 ?c5; (case kA => exact rfl); (case kF => exact rfl); (case kK => assumption); (case k1 => k_asm); (case k2 => k_asm); (case k3 => k_asm); (case k4 => k_asm); (case k5 => k_asm); (case k7 => exact codeRec_news N (List.Mem.tail _ hc1) hc2 hc3); (case k8 => k_room); (case c5 => decide); (case kB => exact locs rfl); (case c2 => exact rfl); (case c3 => exact rfl); (case c4 => exact rfl); k_whole; intro g' L' h' FG' F' N' B' X' T'; (try dsimp only [srch]); (try k_fold))
  k_steps
  rename Fr _ _ _ _ => F1
  rename News _ _ _ _ => N1
  refine While_upF (i := "first") (k₀ := k) (t₀ := tk') (c := cSl nm) (K := max k nm.length) F1 N1 rfl ?gtest ?gturn (stop_sl nm k) ?done ?hE
  case hE => first | passes_own | with_unfolding_all passes_own
  case gtest =>
    intro k1 t1 h1 tk1 hk1 F2 N2
    k_steps
    exact ⟨⟨_, _, rfl, by assumption, by assumption, rfl⟩⟩
  case gturn =>
    intro k1 t1 h1 tk1 hk1 hc1 F2 N2
    k_steps
  case done =>
    intro k1 t1 h1 tk1 hk1 hall hend F2 N2
    have e1 := fNS_of nm k k1 hk1 hall hend
    subst e1
    dsimp only
    k_steps
    rename Fr _ _ _ _ => F3
    rename News _ _ _ _ => N3
    refine While_upF (i := "behind") (k₀ := fNS (sg nm) k) (t₀ := t1) (c := cNo nm) (K := max (fNS (sg nm) k) nm.length) F3 N3 rfl ?gtest ?gturn (stop_no nm _) ?done ?hE
    case hE => first | passes_own | with_unfolding_all passes_own
    case gtest =>
      intro k1 t1 h1 tk1 hk1 F2 N2
      k_steps
      rename News _ _ _ _ => N4
      exact ⟨⟨_, _, rfl, by assumption, cb_drop N4 (fun q hq => .tail _ hq), rfl⟩⟩
    case gturn =>
      intro k1 t1 h1 tk1 hk1 hc1 F2 N2
      k_steps
    case done =>
      intro k1 t1 h1 tk1 hk1 hall hend F2 N2
      have e1 := fSl_of nm _ k1 hk1 hall hend
      subst e1
      dsimp only
      k_steps
      · exact hret _ _ _ _ _ (by omega) (by assumption) (by assumption) (by assumption) (by assumption) (by assumption) (by assumption)
      · exact hnone _ _ (by omega) (by assumption) (by assumption)
end
-- Rev
theorem off_Rev : True := by (w_top off; exact trivial)
section
local macro_rules | `(tactic| walk_at "never") => `(tactic| fail)
local macro_rules | `(tactic| walk_at "never") => `(tactic| fail)
local macro_rules | `(tactic| walk_at "never") => `(tactic| fail)
theorem with_Rev_1 : True := by
  (k_with "my Rev 0" => (k_here; k_dflt (first
  | (refine' callWith_F ?k1 ?_; (case k1 => exact fnAt_search (by k_asm) (by assumption) (fun q hq => .tail _ hq)))
  | (refine' callWith_F0 ?k1 ?_; (case k1 => exact fnAt_span (by k_asm) (by assumption) (fun q hq => .tail _ hq)); try dsimp only [List.nil_append, List.cons_append]))))
  exact trivial
local macro_rules | `(tactic| walk_at "callWith ref") => `(tactic| k_extra "my Rev 0")
theorem with_Rev_2 : True := by
  (k_with "my Rev 1" => (k_dflt (first | exact fnAt_search (by k_asm) (by assumption) (fun q hq => .tail _ hq) | exact fnAt_span (by k_asm) (by assumption) (fun q hq => .tail _ hq))))
  exact trivial
local macro_rules | `(tactic| walk_at "FnAt") => `(tactic| k_extra "my Rev 1")
theorem with_Rev_3 : True := by
  (k_with "my Rev 2" => (k_here; k_dflt (first
  | (refine' prog_getMethod ?N ?hP ?hs ?_; (case N => k_asm); (case hP => assumption); (case hs => exact fun q hq => .tail _ hq))
  | (refine' hit_getMethod ?N ?hP ?hs ?_; (case N => k_asm); (case hP => assumption); (case hs => exact fun q hq => .tail _ hq); intro f' hS'))))
  exact trivial
local macro_rules | `(tactic| walk_at "getMethod ref") => `(tactic| k_extra "my Rev 2")
theorem with_Rev_4 : True := by
  (k_with "my Rev 3" => (k_here; (with_reducible show wpAny _ _ (truthy (Value.ref _)) _ _ _); k_dflt (refine' hit_truthy ?N ?hP ?hs ?_; (case N => k_asm); (case hP => assumption); (case hs => exact fun q hq => .tail _ hq))))
  exact trivial
local macro_rules | `(tactic| walk_at "truthy ref") => `(tactic| k_extra "my Rev 3")
theorem with_Rev_5 : True := by
  (k_with "my Rev 4" => (k_here; (with_reducible show wpAny _ _ (call (Value.ref _) []) _ _ _); k_dflt (refine' span_spec ?B ?F ?X ?N ?T ?hk ?hS ?hsub ?C1 ?hd ?hu ?_; (case B => k_asm); (case F => k_asm); (case X => k_asm); (case N => k_asm); (case T => k_asm); (case hk => exact rfl); (case hS => assumption); (case hsub => exact fun q hq => .tail _ hq); (case C1 => k_asm); (case hd => ktr_room); (case hu => ktr_units); intro t' ti' tj' h' tk' F' N'; (try dsimp only); (try k_fold))))
  exact trivial
local macro_rules | `(tactic| walk_at "call ref") => `(tactic| k_extra "my Rev 4")
theorem with_Rev_6 : True := by
  (k_with "my Rev 5" => (k_here; (with_reducible show wpAny _ _ (call (Value.ref _) (_ :: _)) _ _ _); k_dflt (refine' search_core ?B ?F ?X ?N ?T ?hk ?C1 ?hne ?hps ?hS ?hsz ?hargs ?hd ?hu ?_ ?_; (case B => k_asm); (case F => k_asm); (case X => k_asm); (case N => k_asm); (case T => k_asm); (case hk => exact rfl); (case C1 => k_asm); (case hne => k_asm); (case hps => k_asm); (case hS => assumption); (case hsz => assumption); (case hargs => first | exact .inr ⟨rfl, rfl⟩ | exact .inl ⟨_, rfl⟩); (case hd => ktr_room); (case hu => ktr_units); (all_goals (first | (intro r' ps' hs' h' tk' hyes' F' N' hsub' hne' hps' hH'; (have hP' := ProgIn.mono (by assumption) hsub'); (have hS' := SearchIn.mono (by assumption) hsub'); (try dsimp only); (try k_fold)) | (intro h' tk' hno' F' N'; (try dsimp only); (try k_fold)))))))
  exact trivial
local macro_rules | `(tactic| walk_at "call ref") => `(tactic| k_extra "my Rev 5")

noncomputable def FoundIn (hs : List (Addr × Obj)) (v : Value) : Option (Nat × Nat) → Prop
  | none => v = .none
  | some (i, j) => ∃ r, v = .ref r ∧ HitIn hs r (i : Nat) (j : Nat)
theorem FoundIn.mono {hs hs' : List (Addr × Obj)} {v : Value} : ∀ {o : Option (Nat × Nat)}, FoundIn hs v o → (∀ p ∈ hs, p ∈ hs') → FoundIn hs' v o
  | none, x, _ => x
  | some (_, _), ⟨r, e, x⟩, h => ⟨r, e, x.mono h⟩
theorem srmap {vm vf vi vj vm' vf' vi' vj' : Value} {b : Str → Option Value} :
    (fun y : Str => if y = Str.ofString "j" then some vj else if y = Str.ofString "i" then some vi else if y = Str.ofString "m" then some vm else if y = Str.ofString "found" then some vf else if y = Str.ofString "j" then some vj' else if y = Str.ofString "i" then some vi' else if y = Str.ofString "found" then some vf' else if y = Str.ofString "m" then some vm' else b y) =
    fun y => if y = Str.ofString "j" then some vj else if y = Str.ofString "i" then some vi else if y = Str.ofString "found" then some vf else if y = Str.ofString "m" then some vm else b y := by
  funext y
  by_cases h1 : y = Str.ofString "j"
  · simp only [h1, if_true]
  by_cases h2 : y = Str.ofString "i"
  · simp only [h1, h2, if_true, if_false]
  by_cases h3 : y = Str.ofString "m"
  · have h4 : ¬ (y = Str.ofString "found") := by rw [h3]; decide
    simp only [h1, h2, h4, if_true, if_false]
    simp only [h3, if_true]
  by_cases h4 : y = Str.ofString "found"
  · simp only [h1, h2, h3, if_false]
    simp only [h4, if_true]
  simp only [h1, h2, h3, h4, if_false]

theorem search_reverse_spec {w : World} {p : Program} {loose : List Str} {mean : ExcName → Option Value} {mg mb : Str → Option Value}
  {dp un : Nat} {gd : Option (List Code)} {cn : Str} {cs : Scope} {a : Addr} {ccd : Value} {cl : List (Str × Addr)} {outer : List Env} {A₀ : Around} {base h₀ : Heap} {L : Addr} {m : Str → Option Value} {s : Shared} {Q E : Value → Shared → Prop}
  {ps : Array Value} {hs : List (Addr × Obj)} {P f : Addr} {nm : Str} {col : Nat} {t tc : Tok}
  (B : Below A₀ base outer h₀) (F : Fr h₀ L s.heap m) (X : (hd.heap_39 w.params).In h₀) (N : News h₀ L s.heap ((119, tabObj ps) :: hs)) (T : Top p loose mean mg mb h₀) (hk : cs.kind = .function)
  (C1 : CodeHd base 123 119) (hne : ∀ q ∈ hs, q.1 ≠ 119) (hps : Tab119 ps hs) (hP : ProgIn hs P f) (hS : SearchIn hs f) (hsz : nm.length ≤ 1000)
  (hd : dp + 3 < recursionLimit) (hu : un + 24 < cLine)
  (hret : ∀ vf fd ps' hs' h' tk', SRes (sg nm) col fd → Fr h₀ L h' m → News h₀ L h' ((119, tabObj ps') :: hs') → (∀ q ∈ hs, q ∈ hs') → (∀ q ∈ hs', q.1 ≠ 119) → Tab119 ps' hs' → FoundIn hs' vf fd → Q vf { s with heap := h', toks := tk' }) :
  wpAny (model PySem.Challenge.rw_ij0072_01.row.prog w) (ktrTop dp un gd cn cs L a ccd cl outer) (call (.ref 117) [.ref P, .str nm t, .int col tc]) Q E s := by
  have hfill : PySem.Challenge.rw_ij0072_01 = PySem.Challenge.rw_ij0072_01 → Mine.hd.heap_39 = Mine.hd.heap_39 → True := by
    k_fill
    intros; trivial
  clear hfill
  refine wpAny_call ?_
  k_dflt (refine' code_defL ?k1 ?k2 ?k3 ?k4 ?k5 ?kA ?kF ?kK ?k6 ?k7 ?k8 ?k9 ?kB ?_ ?c2 ?c3 ?c4 ?c5; (case kA => exact rfl); (case kF => exact rfl); (case kK => assumption); (case k1 => k_asm); (case k2 => k_asm); (case k3 => k_asm); (case k4 => k_asm); (case k5 => k_asm); (case k6 => k_is); (case k7 => k_is); (case k8 => k_room); (case k9 => exact BindsTo.of_eq (binds := [(Str.ofString "prog", .ref P), (Str.ofString "chars", .str nm t), (Str.ofString "col", .int col tc)]) rfl); (case c5 => decide); (case kB => exact locs rfl); (case c2 => exact rfl); (case c3 => exact rfl); (case c4 => exact rfl); k_whole; intro g' L' h' FG' F' N' B' X' T' l1; (try dsimp only); (try k_fold))
  k_steps
  · rename News h₀ L _ _ => kN
    exact hret .none none _ _ _ _ (.inl ⟨by omega, rfl⟩) (by assumption) kN (fun q hq => hq) hne hps rfl
  · rename Fr g' L' _ _ => F1
    rename News g' L' _ _ => N1
    rename HitIn _ _ _ _ => hH1
    rename ProgIn _ _ _ => hP1
    rename Tab119 _ _ => hps1
    rename ∀ q ∈ hs, _ ∈ _ => hsub1
    rename ∀ q ∈ _, _ ≠ 119 => hne1
    rename fNS (sg nm) 0 < _ => hyes
    rename List (Addr × Obj) => hs1
    refine While_inv2 (fun n m₁ news₁ => ∃ ps2 hs2 i j fd vm vf ti tj, news₁ = (119, tabObj ps2) :: hs2 ∧
        m₁ = (fun y => if y = Str.ofString "j" then some (.int (j : Nat) tj) else if y = Str.ofString "i" then some (.int (i : Nat) ti) else if y = Str.ofString "found" then some vf else if y = Str.ofString "m" then some vm else
          List.lookup y [(Str.ofString "prog", Value.ref P), (Str.ofString "chars", Value.str nm t), (Str.ofString "col", Value.int (↑col) tc)].reverse) ∧
        (∀ q ∈ hs, q ∈ hs2) ∧ (∀ q ∈ hs2, q.1 ≠ 119) ∧ Tab119 ps2 hs2 ∧ (∃ r, vm = .ref r ∧ HitIn hs2 r (i : Nat) (j : Nat)) ∧ FoundIn hs2 vf fd ∧ i < j ∧ j ≤ nm.length ∧
        (∀ r, SR (sg nm) col i j fd r → SR (sg nm) col (fNS (sg nm) 0) (fSl (sg nm) (fNS (sg nm) 0)) none r) ∧ n = nm.length - i)
      F1 (cb_drop N1 (fun q hq => .tail _ hq)) ⟨_, _, fNS (sg nm) 0, fSl (sg nm) (fNS (sg nm) 0), none, _, _, _, _, rfl, rfl, hsub1, hne1, hps1, ⟨_, rfl, hH1⟩, rfl, hyes, fSl_le' hyes, fun r hr => hr, rfl⟩ ?turn ?hE
    case hE => first | passes_own | with_unfolding_all passes_own
    case turn =>
      rintro n m₁ news₁ h₁ tk₁ F2 N2 ⟨ps2, hs2, i, j, fd, vm, vf, ti, tj, rfl, rfl, hsub2, hne2, hps2, ⟨r, rfl, hH2⟩, hF2, hij, hjl, hSR, rfl⟩
      have hP2 := ProgIn.mono hP hsub2
      have hS2 := SearchIn.mono hS hsub2
      clear F1 N1 hH1 hP1 hps1 hsub1 hne1
      k_steps
      all_goals first | (exfalso; omega) | skip
      · dsimp only [WhileStep2]
        k_steps
        rename News h₀ L _ _ => kN
        rename ¬ (fNS (sg nm) j < _) => hno
        exact hret _ (some (i, j)) _ _ _ _ (.inr ⟨by assumption, hSR _ (.last (by omega) (by omega) hno)⟩) (by assumption) (cb_drop kN (fun q hq => hq)) hsub2 hne2 hps2 ⟨_, rfl, hH2⟩
      · rename HitIn _ _ _ _ => hH3
        rename Tab119 _ _ => hps3
        rename ∀ q ∈ hs2, _ ∈ _ => hsub3
        rename ∀ q ∈ _, _ ≠ 119 => hne3
        rename fNS (sg nm) j < _ => hy3
        rename Fr g' L' _ _ => F3
        rename News g' L' _ _ => N3
        refine ⟨_, _, _, _, _, rfl, F3, cb_drop N3 (fun q hq => .tail _ hq), ?_, _, _, fNS (sg nm) j, fSl (sg nm) (fNS (sg nm) j), some (i, j), _, _, _, _, rfl, srmap, (fun q hq => hsub3 _ (hsub2 _ hq)), hne3, hps3, ⟨_, rfl, hH3⟩, ⟨_, rfl, hH2.mono hsub3⟩, hy3, fSl_le' hy3, (fun r hr => hSR _ (.next (by omega) (by omega) hy3 hr)), rfl⟩
        have := fNS_ge (sg nm) j
        omega
      · exact hret _ fd _ _ _ _ (.inr ⟨by assumption, hSR _ (.stop (by omega))⟩) (by assumption) (by assumption) hsub2 hne2 hps2 hF2
      · exact hret _ fd _ _ _ _ (.inr ⟨by assumption, hSR _ (.stop (by omega))⟩) (by assumption) (by assumption) hsub2 hne2 hps2 hF2
end
-- Split
theorem off_Split : True := by (w_top off; exact trivial)
section
noncomputable abbrev ancTop (dp un : Nat) : Around := { handled := none, depth := dp, frames := none, guards := none, units := un }
noncomputable def hd0 (x : Str) : Str := Txt.slice x none (some (Txt.rfind x (Str.ofString "/") + 1))
noncomputable def splitHead (x : Str) : Str := if ((hd0 x).length ≠ 0 ∧ (hd0 x != Txt.mul (Str.ofString "/") ((hd0 x).length : Int)) = true) then Txt.rstripChars (hd0 x) (Str.ofString "/") else hd0 x
noncomputable abbrev tupS (x y : Str) (tx ty : Tok) : Obj := { cls := .type "tuple", data := .seq [Value.str x tx, Value.str y ty].toArray }
theorem news_drop2 {h₀ h : Heap} {L : Addr} {l : List (Addr × Obj)} {x y : Addr × Obj} (N : News h₀ L h (x :: y :: l)) : News h₀ L h (x :: l) := fun q hq => by
  rcases List.mem_cons.mp hq with rfl | hq
  · exact N _ (.head _)
  · exact N _ (.tail _ (.tail _ hq))
theorem groundU {s : Shared} {h₀ : Heap} {L : Addr} {m : Str → Option Value} {news : List (Addr × Obj)} {R : Result → Shared → Prop} (F : Fr h₀ L s.heap m) (N : News h₀ L s.heap news) :
    Fr h₀ L (hideAll s.heap (news.map (·.1))) m ∧ h₀.StaysIn (hideAll s.heap (news.map (·.1))) ∧ ∀ v s', LeaveK h₀ L m (hideAll s.heap (news.map (·.1))) R v s' → R (.ok (.ret v)) s' := by
  have out : ∀ b o, h₀.get? b = some o → b ∉ news.map (·.1) := fun b o e q => by
    obtain ⟨p, hp, rfl⟩ := List.mem_map.mp q
    rw [(N p hp).2.2] at e; cases e
  have stays : h₀.StaysIn (hideAll s.heap (news.map (·.1))) := fun b o e => hideAll_get _ (F.keep b o e) (out b o e)
  obtain ⟨oL, es, ep, hL, hLd, hLk, hLf⟩ := F.ns
  have hLg := hideAll_get (news.map (·.1)) hL (fun q => by
    obtain ⟨p, hp, e⟩ := List.mem_map.mp q
    exact (N p hp).2.1 e)
  refine ⟨⟨⟨oL, es, ep, hLg, hLd, hLk, hLf⟩, stays, F.above⟩, stays, ?_⟩
  rintro v s' ⟨L', m', news', F', N', k⟩
  refine k ⟨⟨oL, es, ep, F'.keep L oL hLg, hLd, hLk, hLf⟩, fun b o e => F'.keep b o (stays b o e), F.above⟩ fun p hp => ⟨(N' p hp).1, fun q => ?_, ?_⟩
  · have h2 := (N' p hp).2.2
    rw [q, hLg] at h2; cases h2
  · cases q : h₀.get? p.1 with
    | none => rfl
    | some o => have h2 := (N' p hp).2.2; rw [stays _ _ q] at h2; cases h2
theorem code_defU {prog : Program} {w : World} {A : Around} {s : Shared} {K : Frag} {L : Addr} {h₀ : Heap} {m mg mb : Str → Option Value} {news : List (Addr × Obj)} {p : Program} {loose : List Str} {mean : ExcName → Option Value} {R : Result → Shared → Prop} {name qual : Str} {params : Arguments} {body : List Stmt} {scope : Scope} {dV kV doc pm cdv ct oc : Value} {an od : Option Addr} {osl : Array (Option Value)} {f : Addr} {args : Args} {binds : List (Str × Value)}
    (F : Fr h₀ L s.heap m) (X₀ : K.In h₀) (N : News h₀ L s.heap news) (T : Top p loose mean mg mb h₀)
    (ho : K.lookup f = some ⟨oc, od, .func (fnOf name qual params body scope dV kV doc pm an cdv ct), osl⟩) (hcd : codeIn K cdv qual = true) (hroom : A.depth < recursionLimit)
    (hbind : BindsTo s (fnOf name qual params body scope dV kV doc pm an cdv ct) args binds) (hloc : ∀ y ∈ binds, scope.names.lookup y.1 = some .local)
    (h : ∀ g L' h₁, Fr h₀ L g m → Fr g L' h₁ (fun y => binds.reverse.lookup y) → News g L' h₁ news → K.In g → Top p loose mean mg mb g → (∀ p ∈ news, p.1 < L') →
      wpAny (model prog w) (A.deeper (envOf qual scope L' f cdv)) (execs body (envOf qual scope L' f cdv))
        (fun fl s' => LeaveK h₀ L m g R (match fl with | .ret v => v | _ => .none) s')
        (fun e s' => wpAny (model prog w) (A.deeper (envOf qual scope L' f cdv)) (leaving (envOf qual scope L' f cdv) e) (fun _ s'' => R (.error e) s'') (fun e' s'' => R (.error e') s'') s')
        { s with heap := h₁, toks := s.toks + binds.length })
    (hco : scope.isCoroutine = false) (hgen : scope.isGenerator = false) (hk : scope.kind = .function)
    (hcell : ∀ x ∈ scope.names, x.2 ≠ .cell) : codeAny (model prog w) A (.call (.ref f) args) R s := by
  obtain ⟨FG, st, lv⟩ := groundU (R := R) F N
  refine codeAny_call_def (fd := fnOf name qual params body scope dV kV doc pm an cdv ct) (body := body) (binds := binds) hroom ((X₀.keeps F.keep) _ _ ho) rfl (T.nolimit.keeps F.keep) (codeRec_of (X₀.keeps F.keep) hcd) rfl hbind hcell hloc (fun h₁ hns hk₁ => ?_) hco hgen hk
  exact wpAny_mono (h _ s.heap.objs.size h₁ FG ⟨hns, fun b o e => hk₁ b o (of_hideAll _ e), Nat.le_of_eq (hideAll_size _ _)⟩
    (fun p hp => ⟨hk₁ _ _ (N p hp).1, Nat.ne_of_lt (Heap.lt_size (N p hp).1), hideAll_none _ (List.mem_map_of_mem hp)⟩) (X₀.keeps st) (T.keeps st) (fun p hp => Heap.lt_size (N p hp).1)) (fun fl s' hl => lv _ _ hl) fun _ _ y => y
theorem kindU_spec {w : World} {p : Program} {loose : List Str} {mean : ExcName → Option Value} {mg mb : Str → Option Value}
  {dp un : Nat} {h₀ : Heap} {L : Addr} {m : Str → Option Value} {s : Shared} {Q E : Value → Shared → Prop}
  {news : List (Addr × Obj)} {v1 : Value} {nm : Str} {t : Tok}
  (F : Fr h₀ L s.heap m) (X : (hd.heap_39 w.params).In h₀) (N : News h₀ L s.heap news) (T : Top p loose mean mg mb h₀) 
  (hd : dp + 1 < recursionLimit) (hu : un + 8 < cLine)
  (hret : ∀ t' h' tk', Fr h₀ L h' m → News h₀ L h' news → Q (.str (Str.ofString "") t') { s with heap := h', toks := tk' }) :
  wpAny (model PySem.Challenge.rw_ij0072_01.row.prog w) (ancTop dp un) (call (.ref 89) [v1, .str nm t]) Q E s := by
  have hfill : PySem.Challenge.rw_ij0072_01 = PySem.Challenge.rw_ij0072_01 → Mine.hd.heap_39 = Mine.hd.heap_39 → True := by
    k_fill
    intros; trivial
  clear hfill
  refine wpAny_call ?_
  k_dflt (refine' code_defU ?k1 ?k2 ?k3 ?k4 ?k6 ?k7 ?k8 ?k9 ?kB ?_ ?c2 ?c3 ?c4 ?c5; (case k1 => k_asm); (case k2 => k_asm); (case k3 => k_asm); (case k4 => k_asm); (case k6 => k_is); (case k7 => k_is); (case k8 => k_room); (case k9 => exact BindsTo.of_eq (binds := [(Str.ofString "name", v1), (Str.ofString "x", .str nm t)]) rfl); (case c5 => decide); (case kB => exact locs rfl); (case c2 => exact rfl); (case c3 => exact rfl); (case c4 => exact rfl); k_whole; intro g' L' h' FG' F' N' X' T' l1; (try dsimp only); (try k_fold))
  k_steps
  all_goals exact hret _ _ _ (by assumption) (by assumption)
theorem with_Split_1 : True := by
  (k_with "my Split 0" => (show wpAny _ _ (call (.ref 89) [_, .str _ _]) _ _ _; refine kindU_spec (by assumption) (by assumption) (by assumption) (by assumption) (by k_room) (by k_units) ?_; (all_goals (intro t_ h_ tk_ F_ N_; try dsimp only))))
  exact trivial
local macro_rules | `(tactic| walk_at "call ref") => `(tactic| k_extra "my Split 0")
theorem fspathU_spec {w : World} {p : Program} {loose : List Str} {mean : ExcName → Option Value} {mg mb : Str → Option Value}
  {dp un : Nat} {h₀ : Heap} {L : Addr} {m : Str → Option Value} {s : Shared} {Q E : Value → Shared → Prop}
  {news : List (Addr × Obj)} {v1 : Value} {nm : Str} {t : Tok}
  (F : Fr h₀ L s.heap m) (X : (hd.heap_39 w.params).In h₀) (N : News h₀ L s.heap news) (T : Top p loose mean mg mb h₀) 
  (hd : dp + 2 < recursionLimit) (hu : un + 16 < cLine)
  (hret : ∀ h' tk', Fr h₀ L h' m → News h₀ L h' news → Q (.str nm t) { s with heap := h', toks := tk' }) :
  wpAny (model PySem.Challenge.rw_ij0072_01.row.prog w) (ancTop dp un) (call (.ref 96) [v1, .str nm t]) Q E s := by
  have hfill : PySem.Challenge.rw_ij0072_01 = PySem.Challenge.rw_ij0072_01 → Mine.hd.heap_39 = Mine.hd.heap_39 → True := by
    k_fill
    intros; trivial
  clear hfill
  refine wpAny_call ?_
  k_dflt (refine' code_defU ?k1 ?k2 ?k3 ?k4 ?k6 ?k7 ?k8 ?k9 ?kB ?_ ?c2 ?c3 ?c4 ?c5; (case k1 => k_asm); (case k2 => k_asm); (case k3 => k_asm); (case k4 => k_asm); (case k6 => k_is); (case k7 => k_is); (case k8 => k_room); (case k9 => exact BindsTo.of_eq (binds := [(Str.ofString "name", v1), (Str.ofString "x", .str nm t)]) rfl); (case c5 => decide); (case kB => exact locs rfl); (case c2 => exact rfl); (case c3 => exact rfl); (case c4 => exact rfl); k_whole; intro g' L' h' FG' F' N' X' T' l1; (try dsimp only); (try k_fold))
  k_steps
  all_goals exact hret _ _ (by assumption) (by assumption)
theorem with_Split_2 : True := by
  (k_with "my Split 1" => (show wpAny _ _ (call (.ref 96) [_, .str _ _]) _ _ _; refine fspathU_spec (by assumption) (by assumption) (by assumption) (by assumption) (by k_room) (by k_units) ?_; (all_goals (intro h_ tk_ F_ N_; try dsimp only))))
  exact trivial
local macro_rules | `(tactic| walk_at "call ref") => `(tactic| k_extra "my Split 1")
theorem split_spec {w : World} {p : Program} {loose : List Str} {mean : ExcName → Option Value} {mg mb : Str → Option Value}
  {dp un : Nat} {h₀ : Heap} {L : Addr} {m : Str → Option Value} {s : Shared} {Q E : Value → Shared → Prop}
  {news : List (Addr × Obj)} {nm : Str} {t : Tok}
  (F : Fr h₀ L s.heap m) (X : (hd.heap_39 w.params).In h₀) (N : News h₀ L s.heap news) (T : Top p loose mean mg mb h₀) 
  (hsz : nm.length ≤ 1000)
  (hd : dp + 3 < recursionLimit) (hu : un + 24 < cLine)
  (hret : ∀ a tl ta tb h' tk', Fr h₀ L h' m → News h₀ L h' ((a, tupS (splitHead nm) tl ta tb) :: news) → Q (.ref a) { s with heap := h', toks := tk' }) :
  wpAny (model PySem.Challenge.rw_ij0072_01.row.prog w) (ancTop dp un) (call (.ref 103) [.str nm t]) Q E s := by
  have hfill : PySem.Challenge.rw_ij0072_01 = PySem.Challenge.rw_ij0072_01 → Mine.hd.heap_39 = Mine.hd.heap_39 → True := by
    k_fill
    intros; trivial
  clear hfill
  refine wpAny_call ?_
  k_dflt (refine' code_defU ?k1 ?k2 ?k3 ?k4 ?k6 ?k7 ?k8 ?k9 ?kB ?_ ?c2 ?c3 ?c4 ?c5; (case k1 => k_asm); (case k2 => k_asm); (case k3 => k_asm); (case k4 => k_asm); (case k6 => k_is); (case k7 => k_is); (case k8 => k_room); (case k9 => exact BindsTo.of_eq (binds := [(Str.ofString "p", .str nm t)]) rfl); (case c5 => decide); (case kB => exact locs rfl); (case c2 => exact rfl); (case c3 => exact rfl); (case c4 => exact rfl); k_whole; intro g' L' h' FG' F' N' X' T' l1; (try dsimp only); (try k_fold))
  k_steps
  · rename News h₀ L _ _ => kN
    rename (_ != _) = true => h2
    rename _ ≠ (0 : Int) => h1
    have e : splitHead nm = Txt.rstripChars (Txt.slice nm none (some (Txt.rfind nm (Str.ofString "/") + 1))) (Str.ofString "/") := by unfold splitHead; rw [if_pos ⟨by unfold hd0; omega, h2⟩]; rfl
    rw [← e] at kN
    exact hret _ _ _ _ _ _ (by assumption) (news_drop2 kN)
  · rename News h₀ L _ _ => kN
    rename (_ != _) = false => h2
    have e : splitHead nm = Txt.slice nm none (some (Txt.rfind nm (Str.ofString "/") + 1)) := by
      unfold splitHead
      rw [if_neg (fun h => by rw [show (hd0 nm != Txt.mul (Str.ofString "/") ((hd0 nm).length : Int)) = false from h2] at h; exact Bool.false_ne_true h.2)]; rfl
    rw [← e] at kN
    exact hret _ _ _ _ _ _ (by assumption) (news_drop2 kN)
  · rename News h₀ L _ _ => kN
    rename (_ : Int) = 0 => h1
    have e : splitHead nm = Txt.slice nm none (some (Txt.rfind nm (Str.ofString "/") + 1)) := by
      unfold splitHead
      rw [if_neg (fun h => by have h3 := h.1; unfold hd0 at h3; omega)]; rfl
    rw [← e] at kN
    exact hret _ _ _ _ _ _ (by assumption) (news_drop2 kN)
end
-- AncW
theorem off_AncW : True := by (w_top off; exact trivial)
section
local macro_rules | `(tactic| walk_at "never") => `(tactic| fail)
local macro_rules | `(tactic| walk_at "never") => `(tactic| fail)
local macro_rules | `(tactic| walk_at "never") => `(tactic| fail)
noncomputable def ancObj : { o : Obj // ∀ P : Params, List.lookup 110 (Mine.hd.heap_39 P) = some o } := ⟨_, fun P => by
  have hfill : PySem.Challenge.rw_ij0072_01 = PySem.Challenge.rw_ij0072_01 → Mine.hd.heap_39 = Mine.hd.heap_39 → True := by
    k_fill
    intros; trivial
  clear hfill
  show List.lookup 110 (Mine.hd.heap_39 P) = some _
  k_is⟩
structure AncParts where
  s1 : Stmt
  test : Expr
  e : Expr
  yp : Pos
  ep : Pos
  s2 : Stmt
  wp : Pos
  sc : Scope
noncomputable def ancP : { q : AncParts // (match ancObj.1.data with | .func fd => (match fd.body with | .stmts [s1, .While test [.Expr (.Yield (some e) yp) ep, s2] [] wp] => some (⟨s1, test, e, yp, ep, s2, wp, fd.scope⟩ : AncParts) | _ => none) | _ => none) = some q } := ⟨_, rfl⟩
noncomputable abbrev ancEnv (C : Addr) : Env := envX "_ancestry" ancP.1.sc C 110 (.ref 109) []

noncomputable abbrev ancFr (v : Value) (vt : Option Value) : Str → Option Value := fun y => if y = Str.ofString "path" then some v else if y = Str.ofString "tail" then vt else none
theorem ancFr_first (v v0 : Value) : (fun y => if y = Str.ofString "path" then some v else List.lookup y [(Str.ofString "path", v0)].reverse) = ancFr v none := by
  funext y
  by_cases h : y = Str.ofString "path"
  · rw [if_pos h]; exact (if_pos h).symm
  · rw [if_neg h]
    have e : (y == Str.ofString "path") = false := by simpa using h
    have e2 : List.lookup y [(Str.ofString "path", v0)].reverse = none := by simp [List.lookup_cons, e]
    rw [e2]
    unfold ancFr
    rw [if_neg h]
    by_cases h' : y = Str.ofString "tail"
    · rw [if_pos h']
    · rw [if_neg h']
theorem ancFr_two (a b x : Value) (vt : Option Value) : (fun y => if y = Str.ofString "tail" then some b else if y = Str.ofString "path" then some a else ancFr x vt y) = ancFr a (some b) := by
  funext y
  unfold ancFr
  by_cases h : y = Str.ofString "path"
  · have : ¬ y = Str.ofString "tail" := by rw [h]; decide
    rw [if_neg this, if_pos h, if_pos h]
  · by_cases h' : y = Str.ofString "tail"
    · rw [if_pos h', if_neg h, if_pos h']
    · rw [if_neg h', if_neg h, if_neg h, if_neg h']
      rw [if_neg h, if_neg h']
section
variable {w : World} {p : Program} {loose : List Str} {mean : ExcName → Option Value} {mg mb : Str → Option Value} {dp un : Nat} {G : Heap} {news : List (Addr × Obj)} {C : Addr} {s : Shared} {nm : Str} {t : Tok}

theorem anc_first {Q : Flow → Shared → Prop} {E : Value → Shared → Prop} (F : Fr G C s.heap (fun y => List.lookup y [(Str.ofString "path", Value.str nm t)].reverse)) (X : (hd.heap_39 w.params).In G) (N : News G C s.heap news) (T : Top p loose mean mg mb G) (hsz : nm.length ≤ 1000)
  (hret : ∀ h' tk t', Fr G C h' (ancFr (.str (Txt.rstripChars nm (Str.ofString "/")) t') none) → News G C h' news → Q .next { s with heap := h', toks := tk }) :
  wpAny (model PySem.Challenge.rw_ij0072_01.row.prog w) (ancTop dp un) (exec ancP.1.s1 (ancEnv C)) Q E s := by
  have hfill : PySem.Challenge.rw_ij0072_01 = PySem.Challenge.rw_ij0072_01 → Mine.hd.heap_39 = Mine.hd.heap_39 → True := by
    k_fill
    intros; trivial
  clear hfill
  dsimp only [ancP]
  k_steps
  rename Fr G C _ _ => F1
  rw [ancFr_first] at F1
  exact hret _ _ _ F1 (by assumption)
theorem anc_test {Q : Bool → Shared → Prop} {E : Value → Shared → Prop} {vt : Option Value} (F : Fr G C s.heap (ancFr (.str nm t) vt)) (X : (hd.heap_39 w.params).In G) (N : News G C s.heap news) (T : Top p loose mean mg mb G) (hsz : nm.length ≤ 1000)
  (hret : ∀ h' tk, Fr G C h' (ancFr (.str nm t) vt) → News G C h' news → Q (((Txt.rstripChars nm (Str.ofString "/")).length : Int) != 0) { s with heap := h', toks := tk }) :
  wpAny (model PySem.Challenge.rw_ij0072_01.row.prog w) (ancTop dp un) (isTrue ancP.1.test (ancEnv C) (eval ancP.1.test (ancEnv C))) Q E s := by
  have hfill : PySem.Challenge.rw_ij0072_01 = PySem.Challenge.rw_ij0072_01 → Mine.hd.heap_39 = Mine.hd.heap_39 → True := by
    k_fill
    intros; trivial
  clear hfill
  dsimp only [ancP]
  k_steps
  exact hret _ _ (by assumption) (by assumption)
theorem anc_yield {Q : Value → Shared → Prop} {E : Value → Shared → Prop} {vt : Option Value} (F : Fr G C s.heap (ancFr (.str nm t) vt)) (X : (hd.heap_39 w.params).In G) (N : News G C s.heap news) (T : Top p loose mean mg mb G)
  (hret : Q (.str nm t) s) :
  wpAny (model PySem.Challenge.rw_ij0072_01.row.prog w) (ancTop dp un) (eval ancP.1.e (ancEnv C)) Q E s := by
  have hfill : PySem.Challenge.rw_ij0072_01 = PySem.Challenge.rw_ij0072_01 → Mine.hd.heap_39 = Mine.hd.heap_39 → True := by
    k_fill
    intros; trivial
  clear hfill
  dsimp only [ancP]
  k_steps
  exact hret
theorem with_AncW_1 : True := by
  (k_with "my AncW 0" => (show wpAny _ _ (call (.ref 103) [.str _ _]) _ _ _; refine split_spec (by assumption) (by assumption) (by assumption) (by assumption) (by assumption) (by k_room) (by k_units) ?_; (all_goals (intro a_ tl_ ta_ tb_ h_ tk_ F_ N_; try dsimp only))))
  exact trivial
local macro_rules | `(tactic| walk_at "call ref") => `(tactic| k_extra "my AncW 0")
theorem anc_step {Q : Flow → Shared → Prop} {E : Value → Shared → Prop} {vt : Option Value} (F : Fr G C s.heap (ancFr (.str nm t) vt)) (X : (hd.heap_39 w.params).In G) (N : News G C s.heap news) (T : Top p loose mean mg mb G) (hsz : nm.length ≤ 1000)
  (hd : dp + 4 < recursionLimit) (hu : un + 32 < cLine)
  (hret : ∀ h' tk t' v', Fr G C h' (ancFr (.str (splitHead nm) t') (some v')) → News G C h' news → Q .next { s with heap := h', toks := tk }) :
  wpAny (model PySem.Challenge.rw_ij0072_01.row.prog w) (ancTop dp un) (exec ancP.1.s2 (ancEnv C)) Q E s := by
  have hfill : PySem.Challenge.rw_ij0072_01 = PySem.Challenge.rw_ij0072_01 → Mine.hd.heap_39 = Mine.hd.heap_39 → True := by
    k_fill
    intros; trivial
  clear hfill
  dsimp only [ancP]
  k_steps
  rename Fr G C _ _ => F1
  rename News G C _ _ => N1
  rw [ancFr_two] at F1
  exact hret _ _ _ _ F1 fun q hq => N1 q (.tail _ hq)
end
end
-- Gen
theorem off_Gen : True := by (w_top off; exact trivial)
section
theorem wpAny_weaken {M : Model} {A A' : Around} {α : Type} {m : Sem α} {Q : α → Shared → Prop} {E : Value → Shared → Prop} {s : Shared} (h1 : A'.handled = A.handled) (h2 : A.depth ≤ A'.depth) (h3 : ∀ l, A'.frames = some l → A.frames = some l) (h4 : ∀ l, A'.guards = some l → A.guards = some l) (h5 : A.units ≤ A'.units) (h : wpAny M A' m Q E s) : wpAny M A m Q E s :=
  fun Γ p hΓ => h Γ p ⟨hΓ.1.trans h1.symm, Nat.le_trans hΓ.2.1 h2, fun l hl => hΓ.2.2.1 l (h3 l hl), fun l hl => hΓ.2.2.2.1 l (h4 l hl), Nat.le_trans hΓ.2.2.2.2 h5⟩
noncomputable def ancPath (nm : Str) : Nat → Str
  | 0 => Txt.rstripChars nm (Str.ofString "/")
  | j+1 => splitHead (ancPath nm j)
noncomputable def ancGo (x : Str) : Bool := ((Txt.rstripChars x (Str.ofString "/")).length : Int) != 0
structure AncN (nm : Str) (N : Nat) : Prop where
  go : ∀ j, j < N → ancGo (ancPath nm j) = true
  stop : ancGo (ancPath nm N) = false
  sz : ∀ j, (ancPath nm j).length ≤ 1000
  sz0 : nm.length ≤ 1000
noncomputable def allOf (h : Heap) : List (Addr × Obj) := (List.range h.objs.size).filterMap (fun a => (h.get? a).map (fun o => (a, o)))
theorem mem_allOf {h : Heap} {a : Addr} {o : Obj} : (a, o) ∈ allOf h ↔ h.get? a = some o := by
  unfold allOf
  rw [List.mem_filterMap]
  constructor
  · rintro ⟨b, _, e⟩
    cases q : h.get? b with
    | none => rw [q] at e; cases e
    | some o' => rw [q] at e; cases e; exact q
  · intro e
    exact ⟨a, List.mem_range.mpr (Heap.lt_size e), by rw [e]; rfl⟩
noncomputable def newsOf (G : Heap) (C : Addr) (h : Heap) : List (Addr × Obj) := (allOf h).filter (fun p => decide (p.1 ≠ C) && (G.get? p.1).isNone)
theorem newsOf_news (G : Heap) (C : Addr) (h : Heap) : News G C h (newsOf G C h) := by
  rintro ⟨a, o⟩ hp
  obtain ⟨h1, h2⟩ := List.mem_filter.mp hp
  obtain ⟨h3, h4⟩ := Bool.and_eq_true_iff.mp h2
  exact ⟨mem_allOf.mp h1, of_decide_eq_true h3, Option.isNone_iff_eq_none.mp h4⟩
theorem newsOf_keep {G : Heap} {C : Addr} {h h' : Heap} {m m' : Str → Option Value} (F : Fr G C h m) (F' : Fr G C h' m') (N : News G C h' (newsOf G C h)) : ∀ b o, b ≠ C → b ∉ ([] : List Addr) → h.get? b = some o → h'.get? b = some o := by
  intro b o hb _ e
  cases q : G.get? b with
  | some o' =>
    have := F.keep b o' q
    rw [e] at this
    cases this
    exact F'.keep b o q
  | none => exact (N (b, o) (List.mem_filter.mpr ⟨mem_allOf.mpr e, by simp [hb, q]⟩)).1
noncomputable def ancR (C : Addr) : GenEnd := fun n s₀ r s₁ => r = .ok (.ret .none) ∧ n = 0 ∧ GenSince C [] s₀ s₁ ∧ ∃ o, s₁.heap.get? C = some o
noncomputable def ancY (G : Heap) (C : Addr) (nm : Str) (N : Nat) : Protocol := fun m s₀ v s kap =>
  (∃ t, v = .str (ancPath nm (N - 1 - m)) t) ∧ GenSince C [] s₀ s ∧ (∃ o, s.heap.get? C = some o) ∧ ∀ s'' : Shared, G.StaysIn s''.heap → (∀ o, s.heap.get? C = some o → s''.heap.get? C = some o) → kap (.send .none) s''

section
variable {w : World} {p : Program} {loose : List Str} {mean : ExcName → Option Value} {mg mb : Str → Option Value} {D U : Nat} {G : Heap} {C : Addr} {nm : Str} {N : Nat}
noncomputable abbrev ancWhile (C : Addr) : Code := .whileLoop ancP.1.test [.Expr (.Yield (some ancP.1.e) ancP.1.yp) ancP.1.ep, ancP.1.s2] [] (ancEnv C)
noncomputable abbrev ancBody : List Stmt := [ancP.1.s1, .While ancP.1.test [.Expr (.Yield (some ancP.1.e) ancP.1.yp) ancP.1.ep, ancP.1.s2] [] ancP.1.wp]
theorem Fr.later {G h h' : Heap} {C : Addr} {m : Str → Option Value} (F : Fr G C h m) (st : G.StaysIn h') (hC : ∀ o, h.get? C = some o → h'.get? C = some o) : Fr G C h' m :=
  ⟨F.ns.at' hC, st, F.above⟩
theorem seg_anc_loop (X : (hd.heap_39 w.params).In G) (T : Top p loose mean mg mb G) (hN : AncN nm N) (hD : D + 6 < recursionLimit) (hU : U + 44 < cLine) {fs : List Frame}
    (hfs : splitAtGen fs = none) (hfg : fs.any Frame.guarded = false)
    (hover : (Around.over (ancTop D U) (ancWhile C) fs).handled = none ∧ (Around.over (ancTop D U) (ancWhile C) fs).depth ≤ D + 1 ∧ (Around.over (ancTop D U) (ancWhile C) fs).units ≤ U + 3)
    (hend : ∀ s₀ s, GenSince C [] s₀ s → (∃ o, s.heap.get? C = some o) → Seg (model PySem.Challenge.rw_ij0072_01.row.prog w) (ancTop D U) (ancR C) (ancY G C nm N) 0 s₀ (ancWhile C) (.pure (.done .next)) fs s) :
    ∀ (k j : Nat) (s₀ s : Shared) (x : Tok) (vt : Option Value), N - j = k → j ≤ N → Fr G C s.heap (ancFr (.str (ancPath nm j) x) vt) → GenSince C [] s₀ s →
      Seg (model PySem.Challenge.rw_ij0072_01.row.prog w) (ancTop D U) (ancR C) (ancY G C nm N) k s₀ (ancWhile C) ((model PySem.Challenge.rw_ij0072_01.row.prog w).den (ancWhile C)) fs s := by
  have weak : ∀ {α : Type} {m : Sem α} {Q : α → Shared → Prop} {E : Value → Shared → Prop} {s : Shared}, wpAny (model PySem.Challenge.rw_ij0072_01.row.prog w) (ancTop (D + 1) (U + 3)) m Q E s → wpAny (model PySem.Challenge.rw_ij0072_01.row.prog w) (Around.over (ancTop D U) (ancWhile C) fs) m Q E s :=
    fun h => wpAny_weaken (A' := ancTop (D + 1) (U + 3)) hover.1.symm hover.2.1 (fun _ e => nomatch e) (fun _ e => nomatch e) hover.2.2 h
  intro k
  induction k with
  | zero =>
    intro j s₀ s x vt hk hj F hs
    have hjN : j = N := by omega
    subst hjN
    refine seg_whileLoop (weak (anc_test F X (newsOf_news G C s.heap) T (hN.sz _) (fun h' tk F' N' => ?_)))
    have e : (((Txt.rstripChars (ancPath nm j) (Str.ofString "/")).length : Int) != 0) = false := hN.stop
    rw [e, if_neg (by simp)]
    exact hend _ _ (hs.step (newsOf_keep F F' N')) (let ⟨oL, _, _, hL, _⟩ := F'.ns; ⟨oL, hL⟩)
  | succ k ih =>
    intro j s₀ s x vt hk hj F hs
    refine seg_whileLoop (weak (anc_test F X (newsOf_news G C s.heap) T (hN.sz _) (fun h' tk F' N' => ?_)))
    have e : (((Txt.rstripChars (ancPath nm j) (Str.ofString "/")).length : Int) != 0) = true := hN.go j (by omega)
    rw [e, if_pos rfl]
    have hs' := hs.step (tk := tk) (newsOf_keep F F' N')
    refine seg_execs_cons (seg_Expr_Yield hfs rfl hfg (weak (anc_yield F' X N' T ?_)) (by exact rfl) (by exact rfl))
    intro kap hkap
    refine ⟨⟨x, by rw [show N - 1 - k = j by omega]⟩, hs', (let ⟨oL, _, _, hL, _⟩ := F'.ns; ⟨oL, hL⟩), fun s'' st hC => hkap .none s'' ?_⟩
    have F2 : Fr G C s''.heap (ancFr (.str (ancPath nm j) x) vt) := Fr.later F' st hC
    show Seg _ _ _ _ k s'' _ _ fs s''
    refine seg_execs_cons (seg_wrap (weak (anc_step F2 X (newsOf_news G C s''.heap) T (hN.sz _) (by omega) (by omega) (fun h3 tk3 t3 v3 F3 N3 => ?_))))
    refine seg_again rfl (ih (j + 1) s'' _ t3 (some v3) (by omega) (by omega) F3 ?_)
    exact (GenSince.refl C [] s'').step (newsOf_keep F2 F3 N3)
theorem seg_anc (X : (hd.heap_39 w.params).In G) (T : Top p loose mean mg mb G) (hN : AncN nm N) (hD : D + 6 < recursionLimit) (hU : U + 44 < cLine)
    {t : Tok} {s : Shared} (F : Fr G C s.heap (fun y => List.lookup y [(Str.ofString "path", Value.str nm t)].reverse)) :
    Seg (model PySem.Challenge.rw_ij0072_01.row.prog w) (ancTop D U) (ancR C) (ancY G C nm N) N s (.func ancBody (ancEnv C)) ((model PySem.Challenge.rw_ij0072_01.row.prog w).den (.func ancBody (ancEnv C))) [] s := by
  refine seg_func (seg_execs_cons (seg_wrap ?_))
  refine wpAny_weaken (A' := ancTop (D + 1) (U + 3)) rfl (Nat.le_refl _) (fun _ e => nomatch e) (fun _ e => nomatch e) (Nat.le_refl _) ?_
  refine anc_first F X (newsOf_news G C s.heap) T hN.sz0 (fun h' tk t' F' N' => ?_)
  show Seg _ _ _ _ N s _ ((execs [_] _).wrap _ _ _ _) [] _
  refine seg_execs_cons (seg_While (fun p => ?_))
  refine seg_anc_loop X T hN hD hU ?_ ?_ ⟨?_, ?_, ?_⟩ (fun s₀ s₁ h ho => ?_) N 0 _ _ t' none (Nat.sub_zero _) (Nat.zero_le _) F' ((GenSince.refl C [] s).step (newsOf_keep F F' N'))
  · rfl
  · rfl
  · rfl
  · exact Nat.le_refl _
  · exact Nat.le_refl _
  · refine seg_leaf (r := .ok .next) ?_
    show Seg _ _ _ _ 0 s₀ _ ((execs [] (ancEnv C)).wrap _ _ _ _) [] s₁
    exact seg_end (.ok (.ret .none)) ⟨rfl, rfl, h, ho⟩
end
end
-- Wake
theorem off_Wake : True := by (w_top off; exact trivial)
section
structure AncGo (w : World) (D U : Nat) (G : Heap) (C : Addr) (nm : Str) (N : Nat) (gs : GenState) (oC : Obj) (j : Nat) : Prop where
  go : ∀ s'' : Shared, G.StaysIn s''.heap → s''.heap.get? C = some oC → gs.Goes (model PySem.Challenge.rw_ij0072_01.row.prog w) (ancTop D U) (ancR C) (ancY G C nm N) (N - j) (.send .none) s''
  bare : gs.bare = true
  above : G.get? C = none
section
variable {w : World} {D U : Nat} {G : Heap} {C : Addr} {nm : Str} {N j : Nat} {gs : GenState} {oC : Obj} {s : Shared} {a : Addr} {g : Nat}
theorem anc_wake_item {Q E : Value → Shared → Prop} (st : AncGo w D U G C nm N gs oC j) (hg : s.heap.IsGen a g) (hgs : s.gens[g]? = some gs) (hG : G.StaysIn s.heap) (hC : s.heap.get? C = some oC) (hl : s.heap.NoLimit) (hD : D < recursionLimit) (hj : j < N)
    (hQ : ∀ t h' tk gens' gs' oC', (∀ b o, b ≠ C → s.heap.get? b = some o → h'.get? b = some o) → h'.get? C = some oC' → GenOnlyQ g s.gens gens' → gens'[g]? = some gs' → AncGo w D U G C nm N gs' oC' (j + 1) → Q (.str (ancPath nm j) t) { s with heap := h', toks := tk, gens := gens' }) :
    wpAny (model PySem.Challenge.rw_ij0072_01.row.prog w) (ancTop D U) (Builtin.Generator.genWake (.ref a) (.send .none)) (fun fin s' => ∃ v, fin = .done (.ret v) ∧ Q v s') E s := by
  obtain ⟨k, hk⟩ : ∃ k, N - j = k + 1 := ⟨N - j - 1, by omega⟩
  have hgo := st.go (s.setGen g .running) hG hC
  rw [hk] at hgo
  unfold Builtin.Generator.genWake
  refine wpAny_bind (wpAny_holding (wpAny_genNumber hg (wpAny_bind (wpAny_genState hgs ?_))))
  cases gs with
  | running => exact hgo.elim
  | finished => exact hgo.elim
  | _ =>
    refine wpAny_bind (wpAny_roomToWake hl hD ?_)
    show wpAny _ _ (.resume g (.send .none) [] _) _ _ s
    refine wpAny_resumeQ hgs hgo (fun x s₁ hx => ?_) (fun v s₁ gs' hb hv => ?_)
    · exact absurd hx.2.1 (Nat.succ_ne_zero k)
    · obtain ⟨⟨t, rfl⟩, ⟨h₁, tk₁, rfl, hk₁⟩, ⟨o, ho⟩, hkap⟩ := hv
      refine wpAny_pure ⟨_, rfl, ?_⟩
      rw [show N - 1 - (k + 1 - 1) = j by omega]
      refine hQ t h₁ tk₁ _ gs' o (fun b o hb e => hk₁ b o hb (by simp) e) ho ?_ (setGen_self (gs := .running) (setGen_self hgs)) ⟨fun s'' h1 h2 => ?_, hb, st.above⟩
      · exact GenOnlyQ.of ((GenOnly.setGen s g .running).trans (GenOnly.setGen _ g gs')) (setGen_self (gs := .running) (setGen_self hgs)) hb
      · rw [show N - (j + 1) = k by omega]
        exact hkap s'' h1 (fun o' e => by rw [ho] at e; cases e; exact h2)
theorem anc_wake_done {Q E : Value → Shared → Prop} (st : AncGo w D U G C nm N gs oC N) (hg : s.heap.IsGen a g) (hgs : s.gens[g]? = some gs) (hG : G.StaysIn s.heap) (hC : s.heap.get? C = some oC) (hl : s.heap.NoLimit) (hD : D < recursionLimit)
    (hE : ∀ h₁ h' e tk gens' oC', (∀ b o, b ≠ C → s.heap.get? b = some o → h₁.get? b = some o) → h₁.get? C = some oC' → Heap.MadeExc h₁ h' e "StopIteration" [] → GenOnlyQ g s.gens gens' → E (.ref e) { s with heap := h', toks := tk, gens := gens' }) :
    wpAny (model PySem.Challenge.rw_ij0072_01.row.prog w) (ancTop D U) (Builtin.Generator.genWake (.ref a) (.send .none)) (fun fin s' => ∃ v, fin = .done (.ret v) ∧ Q v s') E s := by
  have hgo := st.go (s.setGen g .running) hG hC
  rw [Nat.sub_self] at hgo
  unfold Builtin.Generator.genWake
  refine wpAny_bind (wpAny_holding (wpAny_genNumber hg (wpAny_bind (wpAny_genState hgs ?_))))
  cases gs with
  | running => exact hgo.elim
  | finished => exact hgo.elim
  | _ =>
    refine wpAny_bind (wpAny_roomToWake hl hD ?_)
    show wpAny _ _ (.resume g (.send .none) [] _) _ _ s
    refine wpAny_resumeQ hgs hgo (fun x s₁ hx => ?_) (fun v s₁ gs' hb hv => ?_)
    · obtain ⟨rfl, _, ⟨h₁, tk₁, rfl, hk₁⟩, oC', hoC'⟩ := hx
      show wpAny _ _ (newExc (.type "StopIteration") [] >>= _) _ _ _
      refine wpAny_bind ?_
      simp only [newExc, newTuple]
      refine wpAny_bind (wpAny_newObj_type ?_ (by size_fits))
      refine wpAny_bind (m := firstArgMember _ _) (wpAny_of_eq (a := Value.none) (by first | rfl | (simp only [firstArgMember]; rfl)) ?_)
      refine wpAny_newObj_type ?_ (by size_fits)
      simp only [raiseNew]
      refine wpAny_bind (wpAny_bind (wpAny_handled ?_))
      refine wpAny_throw ?_
      refine hE h₁ _ _ tk₁ _ oC' (fun b o hb e => hk₁ b o hb (by simp) e) hoC' ⟨fun b o e => Heap.get?_push_of_some _ (Heap.get?_push_of_some _ e), ?_, h₁.objs.size, ?_, Heap.get?_none_of_le (Nat.le_refl _), ?_⟩ ?_
      · refine Heap.get?_none_of_le ?_
        rw [Heap.size_push]
        exact Nat.le_succ _
      · exact Heap.get?_push_size _ rfl
      · exact Heap.get?_push_of_some _ (Heap.get?_push_size _ rfl)
      · exact GenOnlyQ.of ((GenOnly.setGen s g .running).trans (GenOnly.setGen _ g .finished)) (setGen_self (gs := .running) (setGen_self hgs)) rfl
    · obtain ⟨_, ⟨h₁, tk₁, rfl, hk₁⟩, _, hkap⟩ := hv
      exact False.elim (hkap _ (fun b o e => hk₁ b o (fun q => by rw [q, st.above] at e; cases e) (by simp) (hG b o e)) (fun _ e => e))
end
end
-- AncCall
theorem off_AncCall : True := by (w_top off; exact trivial)
section
theorem bare_push {gens : Array GenState} {g : GenState} (h : AllBare gens) (hg : g.bare = true) : AllBare (gens.push g) := by
  intro x hx
  rcases Array.mem_push.mp hx with h1 | rfl
  · exact h x h1
  · exact hg
section
variable {w : World} {p : Program} {loose : List Str} {mean : ExcName → Option Value} {mg mb : Str → Option Value} {D U : Nat} {G : Heap}
  {dp un : Nat} {gd : Option (List Code)} {cn : Str} {cs : Scope} {a : Addr} {ccd : Value} {cl : List (Str × Addr)} {outer : List Env} {h₀ : Heap} {L : Addr} {m : Str → Option Value} {s : Shared} {Q E : Value → Shared → Prop}
  {news : List (Addr × Obj)} {nm : Str} {t : Tok} {N₀ : Nat}
noncomputable abbrev genO (g : Nat) (n1 n2 : Str) (t1 t2 : Tok) : Obj := { cls := .type "generator", data := .fields #[.int g 0, .str n1 t1, .str n2 t2] }
theorem ancestry_spec (F : Fr h₀ L s.heap m) (X : (hd.heap_39 w.params).In h₀) (N : News h₀ L s.heap news) (T : Top p loose mean mg mb h₀)
  (hG : G.StaysIn h₀) (XG : (hd.heap_39 w.params).In G) (TG : Top p loose mean mg mb G) (hGs : G.objs.size ≤ h₀.objs.size) (hN : AncN nm N₀)
  (hd : dp + 1 < recursionLimit) (hD : D + 6 < recursionLimit) (hU : U + 44 < cLine)
  (hret : ∀ a C oC n1 n2 t1 t2 gs h' tk', Fr h₀ L h' m → News h₀ L h' ((a, genO s.gens.size n1 n2 t1 t2) :: (C, oC) :: news) → (∀ p ∈ news, p.1 < C) → @LT.lt Nat _ C a → AncGo w D U G C nm N₀ gs oC 0 → Q (.ref a) { s with heap := h', toks := tk', gens := s.gens.push gs }) :
  wpAny (model PySem.Challenge.rw_ij0072_01.row.prog w) (ktrTop dp un gd cn cs L a ccd cl outer) (call (.ref 110) [.str nm t]) Q E s := by
  have hfill : PySem.Challenge.rw_ij0072_01 = PySem.Challenge.rw_ij0072_01 → Mine.hd.heap_39 = Mine.hd.heap_39 → True := by
    k_fill
    intros; trivial
  clear hfill
  have hcd : s.heap.CodeRec (.ref 109) "_ancestry" := codeRec_of (X.keeps F.keep) (by k_is)
  refine wpAny_call (codeAny_call_generator (o := ancObj.1) (body := ancBody) (by show dp < recursionLimit; omega) ((X.keeps F.keep) _ _ (ancObj.2 _)) rfl rfl rfl rfl hcd ?_)
  refine wpAny_of_eq (a := [(Str.ofString "path", Value.str nm t)]) rfl ?_
  refine wpAny_newFunctionEnv (by decide) (by exact locs rfl) (fun h₁ hns hsb => ⟨(T.nolimit.keeps F.keep).fresh _ hsb, ?_⟩) rfl
  have keep₁ : ∀ b o, s.heap.get? b = some o → h₁.get? b = some o := fun b o e => hsb.extBut b o (Nat.ne_of_lt (Heap.lt_size e)) (Heap.get?_push_of_some _ e)
  have hsz : h₁.objs.size = s.heap.objs.size + 1 := by rw [hsb.1, Heap.size_push]
  obtain ⟨oC, es, ep, hC, r1⟩ := id hns
  have none_ : ∀ b, s.heap.objs.size ≤ b → h₀.get? b = none := fun b hb => by
    cases q : h₀.get? b with
    | none => rfl
    | some o => exact absurd (Nat.lt_of_lt_of_le (Heap.lt_size (F.keep _ _ q)) hb) (Nat.lt_irrefl _)
  have hLlt : L < s.heap.objs.size := F.ns.lt
  refine hret h₁.objs.size s.heap.objs.size oC (Str.ofString "_ancestry") (Str.ofString "_ancestry") (s.toks + 1) (s.toks + 1 + 1) _ (h₁.push (genO s.gens.size (Str.ofString "_ancestry") (Str.ofString "_ancestry") (s.toks + 1) (s.toks + 1 + 1))) _ ((F.keeps keep₁).push _) ?_ (fun p hp => Heap.lt_size (N p hp).1) (by rw [hsz]; exact Nat.lt_succ_self _) ⟨fun s'' h1 h2 => ⟨rfl, ?_⟩, rfl, ?_⟩
  · intro q hq
    rcases List.mem_cons.mp hq with rfl | hq
    · exact ⟨Heap.get?_push_size _ rfl, Nat.ne_of_gt (show @LT.lt Nat _ L h₁.objs.size by rw [hsz]; exact Nat.lt_succ_of_lt hLlt), none_ _ (show s.heap.objs.size ≤ h₁.objs.size by rw [hsz]; exact Nat.le_succ _)⟩
    rcases List.mem_cons.mp hq with rfl | hq
    · exact ⟨Heap.get?_push_of_some _ hC, Nat.ne_of_gt hLlt, none_ _ (Nat.le_refl _)⟩
    · exact ⟨Heap.get?_push_of_some _ (keep₁ _ _ (N q hq).1), (N q hq).2.1, (N q hq).2.2⟩
  · refine seg_anc (t := t) XG TG hN hD hU (s := s'') ⟨hns.at' fun o e => ?_, h1, ?_⟩
    · rw [hC] at e; cases e; exact h2
    · exact Nat.le_trans hGs (Nat.le_trans F.above (Nat.le_of_lt hLlt))
  · cases q : G.get? s.heap.objs.size with
    | none => rfl
    | some o => have := none_ _ (Nat.le_refl _); rw [hG _ _ q] at this; cases this
end
end
-- ListIter
theorem off_ListIter : True := by (w_top off; exact trivial)
section
noncomputable abbrev listO (acc : Array Value) (c : Nat) : Obj := { cls := .type "list", dict := none, data := .seq acc c, slots := #[] }
theorem upd_S {h₀ h : Heap} {L S : Addr} {m : Str → Option Value} {o : Obj} {l : List (Addr × Obj)} {f : Obj → Obj} (F : Fr h₀ L h m) (N : News h₀ L h ((S, o) :: l)) (hne : ∀ p ∈ l, p.1 ≠ S) (hf : (f o).isFreed = false) :
    Fr h₀ L (h.update S f) m ∧ News h₀ L (h.update S f) ((S, f o) :: l) := by
  have hS := N (S, o) (.head _)
  refine ⟨⟨F.ns.at' fun o' e => (Heap.get?_update_other _ _ hS.2.1).trans e, fun b o' e => (Heap.get?_update_other _ _ (fun q : S = b => ?_)).trans (F.keep b o' e), F.above⟩, fun p hp => ?_⟩
  · rw [← q, hS.2.2] at e; cases e
  · rcases List.mem_cons.mp hp with rfl | hp
    · exact ⟨Heap.get?_update_self _ hS.1 hf, hS.2.1, hS.2.2⟩
    · have := N p (.tail _ hp)
      exact ⟨(Heap.get?_update_other _ _ (Ne.symm (hne p hp))).trans this.1, this.2.1, this.2.2⟩
structure IterOn (M : Model) (A2 : Around) (I : Addr) (h₀ : Heap) (L : Addr) (m : Str → Option Value) (n : Nat) (P : Nat → Value → Prop) (J : Nat → List (Addr × Obj) → Array GenState → Prop) (Fin : Addr → Obj → Heap → Array GenState → Prop) : Prop where
  next : ∀ i l S o (s : Shared) (E : Value → Shared → Prop), i < n → J i l s.gens → Fr h₀ L s.heap m → News h₀ L s.heap ((S, o) :: l) → (∀ p ∈ l, p.1 < S) →
    wpAny M A2 (pyNext (.ref I)) (fun r s' => ∃ v l' h' tk' gens', r = some v ∧ s' = ⟨h', gens', s.drawn, tk', s.os⟩ ∧ P i v ∧ J (i + 1) l' gens' ∧ Fr h₀ L h' m ∧ News h₀ L h' ((S, o) :: l') ∧ ∀ p ∈ l', p.1 < S) E s
  done : ∀ l S o (s : Shared) (E : Value → Shared → Prop), J n l s.gens → Fr h₀ L s.heap m → News h₀ L s.heap ((S, o) :: l) → (∀ p ∈ l, p.1 < S) →
    wpAny M A2 (pyNext (.ref I)) (fun r s' => ∃ h' tk' gens', r = none ∧ s' = ⟨h', gens', s.drawn, tk', s.os⟩ ∧ Fin S o h' gens') E s
  iter : ∀ l S o (s : Shared) (E : Value → Shared → Prop), J 0 l s.gens → Fr h₀ L s.heap m → News h₀ L s.heap ((S, o) :: l) →
    wpAny M A2 (pyIter (.ref I)) (fun r s' => ∃ h' tk', r = .ref I ∧ s' = { s with heap := h', toks := tk' } ∧ Fr h₀ L h' m ∧ News h₀ L h' ((S, o) :: l)) E s
  type : ∃ cT : Value, (cT == .type "list") = false ∧ (cT == .type "tuple") = false ∧ ∀ l (s : Shared) (E : Value → Shared → Prop) (Q : Value → Shared → Prop), J 0 l s.gens → Fr h₀ L s.heap m → News h₀ L s.heap l → Q cT s → wpAny M A2 (typeOf (.ref I)) Q E s
  hint : ∀ l (s : Shared) (E : Value → Shared → Prop) (Q : Bool → Shared → Prop), J 0 l s.gens → Fr h₀ L s.heap m → News h₀ L s.heap l → (∀ b, Q b s) → wpAny M A2 (Builtin.List.listLengthHint (.ref I)) Q E s
  mem : ∀ l gens, J 0 l gens → ∃ o, (I, o) ∈ l
section
variable {prog : Program} {w : World} {A : Around} {I : Addr} {h₀ : Heap} {L : Addr} {m : Str → Option Value} {n : Nat} {P : Nat → Value → Prop} {J : Nat → List (Addr × Obj) → Array GenState → Prop} {Fin : Addr → Obj → Heap → Array GenState → Prop}
theorem codeAny_list_loop {R : Result → Shared → Prop} (W : IterOn (model prog w) A.in1 I h₀ L m n P J Fin) (hn : n ≤ sizeLine) (S : Addr) (res : Value) :
    ∀ (k i : Nat) (s : Shared) (acc : Array Value) (c : Nat) (l : List (Addr × Obj)), n - i = k → i ≤ n → J i l s.gens → Fr h₀ L s.heap m → News h₀ L s.heap ((S, listO acc c) :: l) → (∀ p ∈ l, p.1 < S) → ItemsOf P acc i →
    (∀ acc' c' h' tk' gens', Fin S (listO acc' c') h' gens' → ItemsOf P acc' n → R (.ok (.ret res)) ⟨h', gens', s.drawn, tk', s.os⟩) →
    codeAny (model prog w) A (.builtin "list.extend.loop" ⟨[.ref S, .ref I, res], []⟩) R s := by
  intro k
  induction k with
  | zero =>
    intro i s acc c l hk hi hJ F N hne hacc hR
    have hin : i = n := by omega
    subst hin
    refine codeAny_builtin PySem.F.entry_extend_loop ?_
    rw [Around.under_plainId PySem.F.plain_extend_loop _]
    show wpAny _ A.in1 (pyNext (.ref I) >>= _) _ _ s
    refine wpAny_bind (wpAny_mono (W.done l S _ s _ hJ F N hne) (fun r s' h => ?_) fun _ _ e => e)
    obtain ⟨h', tk', gens', rfl, rfl, hF⟩ := h
    exact wpAny_pure (hR acc c h' tk' gens' hF hacc)
  | succ k ih =>
    intro i s acc c l hk hi hJ F N hne hacc hR
    have hlt : i < n := by omega
    refine codeAny_builtin PySem.F.entry_extend_loop ?_
    rw [Around.under_plainId PySem.F.plain_extend_loop _]
    show wpAny _ A.in1 (pyNext (.ref I) >>= _) _ _ s
    refine wpAny_bind (wpAny_mono (W.next i l S _ s _ hlt hJ F N hne) (fun r s' h => ?_) fun _ _ e => e)
    obtain ⟨v, l', h', tk', gens', rfl, rfl, hP, hJ', F', N', hne'⟩ := h
    have hS' := (N' (S, listO acc c) (.head _)).1
    show wpAny _ A.in1 (updateSeq S (·.push v) >>= _) _ _ _
    refine wpAny_bind ?_
    have hU := upd_S (f := Obj.mapSeq (·.push v)) F' N' (fun p hp => Nat.ne_of_lt (hne' p hp)) rfl
    refine wpAny_updateSeq hS' rfl (wpAny_pure ⟨plainId_quiet PySem.F.plain_extend_loop _, ih (i + 1) _ (acc.push v) _ l' (by omega) hlt hJ' hU.1 hU.2 hne' (hacc.push hP) fun acc' c' h'' tk'' gens'' hF'' hacc' => ?_⟩)
      (by rw [hacc.1]; omega) (by show (acc.push v).size ≤ sizeLine + 1; rw [Array.size_push, hacc.1]; omega)
    exact hR _ _ _ _ _ hF'' hacc'
end
section
variable {prog : Program} {w : World} {A : Around} {I : Addr} {h₀ : Heap} {L : Addr} {m : Str → Option Value} {n : Nat} {P : Nat → Value → Prop} {J : Nat → List (Addr × Obj) → Array GenState → Prop} {Fin : Addr → Obj → Heap → Array GenState → Prop}
theorem news_tail {h₀ h : Heap} {L : Addr} {x : Addr × Obj} {l : List (Addr × Obj)} (N : News h₀ L h (x :: l)) : News h₀ L h l := fun q hq => N q (.tail _ hq)
theorem list_extend_iter {R : Result → Shared → Prop} {s : Shared} (W : IterOn (model prog w) A.in1 I h₀ L m n P J Fin) (hn : n ≤ sizeLine) (S : Addr) (res : Value) (c₀ : Nat) (l : List (Addr × Obj)) (hJ : J 0 l s.gens) (F : Fr h₀ L s.heap m) (N : News h₀ L s.heap ((S, listO #[] c₀) :: l)) (hne : ∀ p ∈ l, p.1 < S)
    (hR : ∀ acc' c' h' tk' gens', Fin S (listO acc' c') h' gens' → ItemsOf P acc' n → R (.ok (.ret res)) ⟨h', gens', s.drawn, tk', s.os⟩) :
    wpAny (model prog w) A.in1 (Builtin.List.listExtendWith (.ref S) (.ref I) res)
      (fun fin s' => match fin with | .done f => R (.ok f) s' | .again c' => c'.quiet = true ∧ codeAny (model prog w) A c' R s') (fun e s' => R (.error e) s') s := by
  obtain ⟨oI, hI⟩ := W.mem _ _ hJ
  have hSI : S ≠ I := fun e => absurd e.symm (Nat.ne_of_lt (hne _ hI))
  obtain ⟨cT, hc1, hc2, ht⟩ := W.type
  unfold Builtin.List.listExtendWith
  refine wpAny_bind (ht l s _ _ hJ F (news_tail N) ?_)
  have h1 : Builtin.List.listSameRef (.ref S) (.ref I) = false := by simp [Builtin.List.listSameRef, hSI]
  simp only [h1, hc1, hc2, Bool.or_false, Bool.false_eq_true, if_false]
  refine wpAny_bind (wpAny_mono (W.iter l S _ s _ hJ F N) (fun r s₁ h => ?_) fun _ _ e => e)
  obtain ⟨h', tk', rfl, rfl, F₁, N₁⟩ := h
  refine wpAny_bind (wpAny_holding (W.hint l _ _ _ hJ F₁ (news_tail N₁) (fun b => ?_)))
  have fin : ∀ (h₂ : Heap) (c₂ : Nat), Fr h₀ L h₂ m → News h₀ L h₂ ((S, listO #[] c₂) :: l) →
      wpAny (model prog w) A.in1 (again (.builtin "list.extend.loop" ⟨[.ref S, .ref I, res], []⟩))
        (fun fin s' => match fin with | .done f => R (.ok f) s' | .again c' => c'.quiet = true ∧ codeAny (model prog w) A c' R s') (fun e s' => R (.error e) s') ⟨h₂, s.gens, s.drawn, tk', s.os⟩ :=
    fun h₂ c₂ F₂ N₂ => wpAny_pure ⟨plainId_quiet PySem.F.plain_extend_loop _, codeAny_list_loop W hn S res n 0 _ #[] c₂ l rfl (Nat.zero_le _) hJ F₂ N₂ hne (ItemsOf.nil P) hR⟩
  split
  · refine wpAny_bind (wpAny_rule ?_)
    refine wpAny_bind ?_
    show wpAny _ A.in1 (updateSeq S (·.push .none) >>= fun _ => updateSeq S (·.pop)) _ _ _
    have hS := (N₁ _ (.head _)).1
    have U1 := upd_S (f := Obj.mapSeq (·.push Value.none)) F₁ N₁ (fun p hp => Nat.ne_of_lt (hne p hp)) rfl
    refine wpAny_bind (wpAny_updateSeq hS rfl ?_)
    have hS₂ := (U1.2 _ (.head _)).1
    have U2 := upd_S (f := Obj.mapSeq (·.pop)) U1.1 U1.2 (fun p hp => Nat.ne_of_lt (hne p hp)) rfl
    exact wpAny_updateSeq (hz := by seq_fits) hS₂ rfl (fin _ _ U2.1 U2.2)
  · exact fin _ _ F₁ N₁
theorem list_iter_spec {Q : Value → Shared → Prop} {E : Value → Shared → Prop} {s : Shared} {l : List (Addr × Obj)} (W : IterOn (model prog w) A.in1.in1 I h₀ L m n P J Fin) (hn : n ≤ sizeLine) (hJ : J 0 l s.gens) (F : Fr h₀ L s.heap m) (N : News h₀ L s.heap l)
    (hQ : ∀ S acc' c' h' tk' gens', Fin S (listO acc' c') h' gens' → (∀ p ∈ l, p.1 < S) → ItemsOf P acc' n → Q (.ref S) ⟨h', gens', s.drawn, tk', s.os⟩) :
    wpAny (model prog w) A (call (.type "list") [.ref I]) Q E s := by
  refine callType_codes (Q₁ := fun obj s₁ => obj = .ref s.heap.objs.size ∧ s₁ = { s with heap := s.heap.push { cls := .type "list", data := .seq #[] } }) PySem.F.called_list (PySem.F.typeCall_list_1 _) PySem.F.entry_list_init
    (code_list_new _ ⟨rfl, rfl⟩) fun obj s₁ h₁ => ?_
  obtain ⟨rfl, rfl⟩ := h₁
  have N₁ : News h₀ L (s.heap.push (listO #[] 0)) ((s.heap.objs.size, listO #[] 0) :: l) := N.push F _ rfl
  have F₁ := F.push (listO #[] 0)
  have hlt : ∀ p ∈ l, p.1 < s.heap.objs.size := fun p hp => Heap.lt_size (N p hp).1
  have hne : ∀ p ∈ l, p.1 < s.heap.objs.size := hlt
  have hS := (N₁ _ (.head _)).1
  refine ⟨⟨_, hS, rfl⟩, PySem.F.args_list_init_2 _ _, ?_⟩
  show wpAny _ A.in1.in1 (do let old ← Builtin.List.listItems (.ref s.heap.objs.size); Builtin.List.listUpdate (.ref s.heap.objs.size) (fun _ => #[]); letGo old.toList.reverse; Builtin.List.listExtendWith (.ref s.heap.objs.size) (.ref I) .none) _ _ _
  refine wpAny_bind ?_
  unfold Builtin.List.listItems
  refine wpAny_bind (wpAny_seqItems hS rfl (wpAny_pure ?_))
  show wpAny _ A.in1.in1 (updateSeq s.heap.objs.size (fun _ => #[]) >>= fun _ => letGo (#[] : Array Value).toList.reverse >>= fun _ => Builtin.List.listExtendWith (.ref s.heap.objs.size) (.ref I) .none) _ _ _
  refine wpAny_bind (wpAny_updateSeq hS rfl ?_)
  have U1 := upd_S (f := Obj.mapSeq (fun _ => (#[] : Array Value))) F₁ N₁ (fun p hp => Nat.ne_of_lt (hne p hp)) rfl
  refine wpAny_bind (wpAny_letGo ?_)
  refine list_extend_iter W hn _ .none _ l hJ U1.1 U1.2 hne fun acc' c' h' tk' gens' hF hacc => ?_
  exact ⟨rfl, hQ _ _ _ _ _ _ hF hlt hacc⟩
end
end
-- GenIter
theorem off_GenIter : True := by (w_top off; exact trivial)
section
section
variable {w : World} {p : Program} {loose : List Str} {mean : ExcName → Option Value} {mg mb : Str → Option Value} {D U : Nat} {G : Heap} {A2 : Around}
  {h₀ : Heap} {L : Addr} {m : Str → Option Value} {news : List (Addr × Obj)} {nm : Str} {N₀ : Nat} {a C : Addr} {g : Nat} {n1 n2 : Str} {t1 t2 : Tok}
theorem kept_C {h h' : Heap} {l : List (Addr × Obj)} {oC : Obj} (F : Fr h₀ L h m) (N : News h₀ L h ((C, oC) :: l)) (hk : ∀ b o, b ≠ C → h.get? b = some o → h'.get? b = some o) (hl : ∀ p ∈ l, p.1 ≠ C) : Fr h₀ L h' m ∧ News h₀ L h' l := by
  have hC := N _ (.head _)
  refine ⟨⟨F.ns.at' fun o e => hk _ o (Ne.symm hC.2.1) e, fun b o e => hk b o (fun q => ?_) (F.keep b o e), F.above⟩, fun q hq => ?_⟩
  · rw [q, hC.2.2] at e; cases e
  · have := N q (.tail _ hq)
    exact ⟨hk _ _ (hl q hq) this.1, this.2⟩
inductive AncJ (w : World) (D U : Nat) (G : Heap) (C : Addr) (nm : Str) (N₀ : Nat) (a : Addr) (gO : Obj) (g : Nat) (news : List (Addr × Obj)) : Nat → List (Addr × Obj) → Array GenState → Prop
  | on {i : Nat} {gens : Array GenState} {gs : GenState} {oC : Obj} (hi : i ≤ N₀) (hg : gens[g]? = some gs) (st : AncGo w D U G C nm N₀ gs oC i) (hb : AllBare gens) : AncJ w D U G C nm N₀ a gO g news i ((a, gO) :: (C, oC) :: news) gens
theorem gen_iter (T : Top p loose mean mg mb h₀) (hG : G.StaysIn h₀) (hA : A2.handled = none) (hd : A2.depth ≤ D) (hu : A2.units + 1 ≤ U) (hD : D < recursionLimit)
    (hlt : ∀ p ∈ news, p.1 < C) (haC : @LT.lt Nat _ C a) :
    IterOn (model PySem.Challenge.rw_ij0072_01.row.prog w) A2 a h₀ L m N₀ (fun j v => ∃ t, v = .str (ancPath nm j) t) (AncJ w D U G C nm N₀ a (genO g n1 n2 t1 t2) g news) (fun S o h' gens' => Fr h₀ L h' m ∧ News h₀ L h' ((S, o) :: (a, genO g n1 n2 t1 t2) :: news) ∧ AllBare gens') where
  next := by
    rintro i l S o s E hi J F N hne
    cases J with
    | @on gens gs oC hi' hgs st hb =>
      have hgen : s.heap.IsGen a g := ⟨_, _, _, (N _ (.tail _ (.head _))).1, rfl, rfl, rfl⟩
      unfold pyNext
      refine wpAny_bind (wpAny_attempt (wpAny_callSpecial?_slot (name := Str.ofString "__next__") hgen.typeIs slot_gen_next
        (wpAny_call_entry slot_gen_next hgen.typeIs entry_gen_next ?_ (args_gen_next _))))
      refine wpAny_weaken (A' := ancTop D U) hA.symm hd (fun _ e => by cases e) (fun _ e => by cases e) hu ?_
      refine anc_wake_item st hgen hgs (fun b o e => F.keep b o (hG b o e)) (N _ (.tail _ (.tail _ (.head _)))).1 (T.nolimit.keeps F.keep) hD hi (fun t h' tk gens' gs' oC' hk hC' hGo hg' st' => ?_)
      have N1 : News h₀ L s.heap ((C, oC) :: (S, o) :: (a, genO g n1 n2 t1 t2) :: news) := fun q hq => by
        simp only [List.mem_cons] at hq
        refine N q ?_
        simp only [List.mem_cons]
        rcases hq with h | h | h | h <;> simp [h]
      have hC0 := N _ (.tail _ (.tail _ (.head _)))
      have hCS : C ≠ S := Nat.ne_of_lt (hne _ (.tail _ (.head _)))
      obtain ⟨F', N'⟩ := kept_C F N1 hk (fun q hq => by
        rcases List.mem_cons.mp hq with rfl | hq
        · exact Ne.symm hCS
        rcases List.mem_cons.mp hq with rfl | hq
        · exact Nat.ne_of_gt haC
        · exact Nat.ne_of_lt (hlt q hq))
      refine wpAny_pure ⟨_, _, h', tk, gens', rfl, rfl, ⟨t, rfl⟩, .on hi hg' st' (hGo.bare hb), F', fun q hq => ?_, fun q hq => ?_⟩
      · rcases List.mem_cons.mp hq with rfl | hq
        · exact N' _ (.head _)
        rcases List.mem_cons.mp hq with rfl | hq
        · exact N' _ (.tail _ (.head _))
        rcases List.mem_cons.mp hq with rfl | hq
        · exact ⟨hC', hC0.2⟩
        · exact N' _ (.tail _ (.tail _ hq))
      · rcases List.mem_cons.mp hq with rfl | hq
        · exact hne _ (.head _)
        rcases List.mem_cons.mp hq with rfl | hq
        · exact (hne (C, oC) (.tail _ (.head _)) : @LT.lt Nat _ C S)
        · exact hne _ (.tail _ (.tail _ hq))
  done := by
    rintro l S o s E J F N hne
    generalize hj : N₀ = j at J
    cases J with
    | @on gens gs oC hi' hgs st hb =>
      subst hj
      have hgen : s.heap.IsGen a g := ⟨_, _, _, (N _ (.tail _ (.head _))).1, rfl, rfl, rfl⟩
      unfold pyNext
      refine wpAny_bind (wpAny_attempt (wpAny_callSpecial?_slot (name := Str.ofString "__next__") hgen.typeIs slot_gen_next
        (wpAny_call_entry slot_gen_next hgen.typeIs entry_gen_next ?_ (args_gen_next _))))
      refine wpAny_weaken (A' := ancTop D U) hA.symm hd (fun _ e => by cases e) (fun _ e => by cases e) hu ?_
      refine anc_wake_done st hgen hgs (fun b o e => F.keep b o (hG b o e)) (N _ (.tail _ (.tail _ (.head _)))).1 (T.nolimit.keeps F.keep) hD (fun h₁ h' e tk gens' oC' hk hC' hm hGo => ?_)
      have N1 : News h₀ L s.heap ((C, oC) :: (S, o) :: (a, genO g n1 n2 t1 t2) :: news) := fun q hq => by
        simp only [List.mem_cons] at hq
        refine N q ?_
        simp only [List.mem_cons]
        rcases hq with h | h | h | h <;> simp [h]
      have hCS : C ≠ S := Nat.ne_of_lt (hne _ (.tail _ (.head _)))
      obtain ⟨F', N'⟩ := kept_C F N1 (fun b o hb e => hm.keeps b o (hk b o hb e)) (fun q hq => by
        rcases List.mem_cons.mp hq with rfl | hq
        · exact Ne.symm hCS
        rcases List.mem_cons.mp hq with rfl | hq
        · exact Nat.ne_of_gt haC
        · exact Nat.ne_of_lt (hlt q hq))
      obtain ⟨te, hte, _⟩ := hm.there
      refine wpAny_bind (wpAny_isInstance (T := "StopIteration") (b := true) ⟨_, hte, rfl⟩ isSubtype_stop ?_)
      exact wpAny_pure ⟨h', tk, gens', rfl, rfl, F', N', hGo.bare hb⟩
  iter := by
    rintro l S o s E J F N
    generalize hj : 0 = j at J
    cases J with
    | @on gens gs oC hi' hgs st hb =>
      have hgen : s.heap.IsGen a g := ⟨_, _, _, (N _ (.tail _ (.head _))).1, rfl, rfl, rfl⟩
      exact wpAny_pyIter_gen hgen ⟨s.heap, s.toks, rfl, rfl, F, N⟩
  type := by
    refine ⟨.type "generator", by decide, by decide, ?_⟩
    rintro l s E Q J F N hQ
    generalize hj : 0 = j at J
    cases J with
    | @on gens gs oC hi' hgs st hb =>
      have hgen : s.heap.IsGen a g := ⟨_, _, _, (N _ (.head _)).1, rfl, rfl, rfl⟩
      exact wpAny_typeOf hgen.typeIs hQ
  hint := by
    rintro l s E Q J F N hQ
    generalize hj : 0 = j at J
    cases J with
    | @on gens gs oC hi' hgs st hb =>
      have hgen : s.heap.IsGen a g := ⟨_, _, _, (N _ (.head _)).1, rfl, rfl, rfl⟩
      unfold Builtin.List.listLengthHint
      refine wpAny_bind (wpAny_specialOf hgen.typeIs PySem.F.gen_no_len ?_)
      show wpAny _ _ (specialOf (Value.ref a) (Str.ofString "__length_hint__") >>= _) _ _ _
      refine wpAny_bind (wpAny_specialOf hgen.typeIs PySem.F.gen_no_hint ?_)
      exact wpAny_pure (hQ _)
  mem := by
    rintro l gens J
    generalize hj : 0 = j at J
    cases J with
    | on => exact ⟨_, .head _⟩
end
end
-- GenNext
theorem off_GenNext : True := by (w_top off; exact trivial)
section
section
variable {w : World} {A : Around} {h₀ : Heap} {L : Addr} {m : Str → Option Value} {news : List (Addr × Obj)} {s : Shared}
theorem iter_gen {a : Addr} {g : Nat} {n1 n2 : Str} {t1 t2 : Tok} {Q E : Value → Shared → Prop} (N : News h₀ L s.heap news) (hm : (a, genO g n1 n2 t1 t2) ∈ news) (h : Q (.ref a) s) :
    wpAny (model PySem.Challenge.rw_ij0072_01.row.prog w) A (call (.builtin "iter") [.ref a]) Q E s := by
  have hgen : s.heap.IsGen a g := ⟨_, _, _, (N _ hm).1, rfl, rfl, rfl⟩
  refine call_function_entry (by decide +kernel) (by decide +kernel) kdk_entry_iter (kdk_args_iter _) ?_
  unfold Builtin.«iter»
  refine wpAny_bind (m := someArgs "iter" 1 2 _) (wpAny_of_eq (a := [Value.ref a]) (by first | rfl | kernel_rfl!) ?_)
  dsimp only
  refine wpAny_bind (wpAny_pyIter_gen hgen ?_)
  exact wpAny_pure ⟨_, rfl, h⟩
theorem next_gen {a : Addr} {g : Nat} {n1 n2 : Str} {t1 t2 : Tok} {Q E : Value → Shared → Prop} (N : News h₀ L s.heap news) (hm : (a, genO g n1 n2 t1 t2) ∈ news)
    (h : wpAny (model PySem.Challenge.rw_ij0072_01.row.prog w) A.in1.in1 (Builtin.Generator.genWake (.ref a) (.send .none)) (fun fin s' => ∃ v, fin = .done (.ret v) ∧ Q v s') E s) :
    wpAny (model PySem.Challenge.rw_ij0072_01.row.prog w) A (call (.builtin "next") [.ref a]) Q E s := by
  have hgen : s.heap.IsGen a g := ⟨_, _, _, (N _ hm).1, rfl, rfl, rfl⟩
  refine call_function_entry (by decide +kernel) (by decide +kernel) kdk_entry_next (kdk_args_next _) ?_
  unfold Builtin.«next»
  refine wpAny_bind (m := someArgs "next" 1 2 _) (wpAny_of_eq (a := [Value.ref a]) (by first | rfl | kernel_rfl!) ?_)
  dsimp only
  refine wpAny_bind (wpAny_specialOf (name := Str.ofString "__next__") hgen.typeIs slot_gen_next.lookup ?_)
  refine wpAny_ite_split (fun hab => absurd hab (by decide)) (fun _ => ?_)
  refine wpAny_bind (wpAny_callSpecial?_slot (name := Str.ofString "__next__") hgen.typeIs slot_gen_next
    (wpAny_call_entry slot_gen_next hgen.typeIs entry_gen_next ?_ (args_gen_next _)))
  refine wpAny_mono h (fun fin s' hh => ?_) fun _ _ e => e
  obtain ⟨v, rfl, hq⟩ := hh
  exact ⟨v, rfl, wpAny_pure ⟨v, rfl, hq⟩⟩
theorem upd_keep {h h' : Heap} {l : List (Addr × Obj)} {C : Addr} {oC oC' : Obj} {gl : Obj → List (Addr × Obj)} (F : Fr h₀ L h m) (N : News h₀ L h l) (U : UpdF C oC l gl) (hk : ∀ b o, b ≠ C → h.get? b = some o → h'.get? b = some o) (hC : h'.get? C = some oC') : Fr h₀ L h' m ∧ News h₀ L h' (gl oC') := by
  obtain ⟨pre, post, rfl, hg, h1, h2⟩ := U.split
  have hCN := N (C, oC) (List.mem_append_right _ (.head _))
  refine ⟨⟨F.ns.at' fun o e => hk _ o (Ne.symm hCN.2.1) e, fun b o e => hk b o (fun q => ?_) (F.keep b o e), F.above⟩, fun q hq => ?_⟩
  · rw [q, hCN.2.2] at e; cases e
  · rw [hg] at hq
    rcases List.mem_append.mp hq with hq | hq
    · have := N q (List.mem_append_left _ hq)
      exact ⟨hk _ _ (h1 q hq) this.1, this.2⟩
    · rcases List.mem_cons.mp hq with rfl | hq
      · exact ⟨hC, hCN.2⟩
      · have := N q (List.mem_append_right _ (.tail _ hq))
        exact ⟨hk _ _ (h2 q hq) this.1, this.2⟩
theorem next_item_spec {p : Program} {loose : List Str} {mean : ExcName → Option Value} {mg mb : Str → Option Value} {D U : Nat} {G : Heap} {C a : Addr} {g : Nat} {n1 n2 nm : Str} {t1 t2 : Tok} {N₀ j : Nat} {gs : GenState} {oC : Obj} {gl : Obj → List (Addr × Obj)} {Q E : Value → Shared → Prop}
    (F : Fr h₀ L s.heap m) (N : News h₀ L s.heap news) (T : Top p loose mean mg mb h₀) (hG : G.StaysIn h₀) (hgs : s.gens[g]? = some gs) (st : AncGo w D U G C nm N₀ gs oC j) (hj : j < N₀) (hm : (a, genO g n1 n2 t1 t2) ∈ news) (Up : UpdF C oC news gl)
    (hA : A.handled = none) (hd : A.depth ≤ D) (hu : A.units + 2 ≤ U) (hD : D < recursionLimit)
    (h : ∀ t h' tk gens' gs' oC', Fr h₀ L h' m → News h₀ L h' (gl oC') → GenOnlyQ g s.gens gens' → gens'[g]? = some gs' → AncGo w D U G C nm N₀ gs' oC' (j + 1) → Q (.str (ancPath nm j) t) { s with heap := h', toks := tk, gens := gens' }) :
    wpAny (model PySem.Challenge.rw_ij0072_01.row.prog w) A (call (.builtin "next") [.ref a]) Q E s := by
  refine next_gen N hm (wpAny_weaken (A' := ancTop D U) hA.symm hd (fun _ e => by cases e) (fun _ e => by cases e) hu ?_)
  have hgen : s.heap.IsGen a g := ⟨_, _, _, (N _ hm).1, rfl, rfl, rfl⟩
  have hC : s.heap.get? C = some oC := by
    obtain ⟨pre, post, rfl, _, _, _⟩ := Up.split
    exact (N (C, oC) (List.mem_append_right _ (.head _))).1
  refine anc_wake_item st hgen hgs (fun b o e => F.keep b o (hG b o e)) hC (T.nolimit.keeps F.keep) hD hj (fun t h' tk gens' gs' oC' hk hC' hGo hg' st' => ?_)
  obtain ⟨F', N'⟩ := upd_keep F N Up hk hC'
  exact h t h' tk gens' gs' oC' F' N' hGo hg' st'
theorem next_stop_spec {p : Program} {loose : List Str} {mean : ExcName → Option Value} {mg mb : Str → Option Value} {D U : Nat} {G : Heap} {C a : Addr} {g : Nat} {n1 n2 nm : Str} {t1 t2 : Tok} {N₀ : Nat} {gs : GenState} {oC : Obj} {gl : Obj → List (Addr × Obj)} {Q E : Value → Shared → Prop}
    (F : Fr h₀ L s.heap m) (N : News h₀ L s.heap news) (T : Top p loose mean mg mb h₀) (hG : G.StaysIn h₀) (hgs : s.gens[g]? = some gs) (st : AncGo w D U G C nm N₀ gs oC N₀) (hm : (a, genO g n1 n2 t1 t2) ∈ news) (Up : UpdF C oC news gl)
    (hA : A.handled = none) (hd : A.depth ≤ D) (hu : A.units + 2 ≤ U) (hD : D < recursionLimit)
    (h : ∀ h₁ h' e tk gens' oC', Fr h₀ L h₁ m → News h₀ L h₁ (gl oC') → Heap.MadeExc h₁ h' e "StopIteration" [] → GenOnlyQ g s.gens gens' → E (.ref e) { s with heap := h', toks := tk, gens := gens' }) :
    wpAny (model PySem.Challenge.rw_ij0072_01.row.prog w) A (call (.builtin "next") [.ref a]) Q E s := by
  refine next_gen N hm (wpAny_weaken (A' := ancTop D U) hA.symm hd (fun _ e => by cases e) (fun _ e => by cases e) hu ?_)
  have hgen : s.heap.IsGen a g := ⟨_, _, _, (N _ hm).1, rfl, rfl, rfl⟩
  have hC : s.heap.get? C = some oC := by
    obtain ⟨pre, post, rfl, _, _, _⟩ := Up.split
    exact (N (C, oC) (List.mem_append_right _ (.head _))).1
  refine anc_wake_done st hgen hgs (fun b o e => F.keep b o (hG b o e)) hC (T.nolimit.keeps F.keep) hD (fun h₁ h' e tk gens' oC' hk hC' hm hGo => ?_)
  obtain ⟨F', N'⟩ := upd_keep F N Up hk hC'
  exact h h₁ h' e tk gens' oC' F' N' hm hGo
end
end
-- Tup
theorem off_Tup : True := by (w_top off; exact trivial)
section
noncomputable abbrev tupO (items : Array Value) : Obj := { cls := .type "tuple", data := .seq items }
noncomputable abbrev titO (T : Addr) (i : Nat) : Obj := { cls := .type "tuple_iterator", data := .fields #[.ref T, .int i 0] }
structure TupStep (h₀ : Heap) (L : Addr) (s : Shared) (m : Str → Option Value) (news : List (Addr × Obj)) (f : Flow) (s' : Shared) : Prop where
  out : ∃ h' tk, f = .next ∧ s' = { s with heap := h', toks := tk } ∧ Fr h₀ L h' m ∧ News h₀ L h' news
section
variable {prog : Program} {w : World} {A : Around} {s : Shared} {h₀ : Heap} {L : Addr} {m : Str → Option Value} {news : List (Addr × Obj)} {env : Env}
theorem tup_ext {h h' : Heap} {I : Addr} {o : Obj} (F : Fr h₀ L h m) (N : News h₀ L h ((I, o) :: news)) (hne : ∀ p ∈ news, p.1 ≠ I) (hs : Heap.ExtBut I h h') : Fr h₀ L h' m ∧ News h₀ L h' news := by
  have hI := N _ (.head _)
  refine ⟨⟨F.ns.at' fun o' e => hs _ _ (Ne.symm hI.2.1) e, fun b o' e => hs _ _ (fun q => ?_) (F.keep b o' e), F.above⟩, fun p hp => ?_⟩
  · rw [q, hI.2.2] at e; cases e
  · have := N p (.tail _ hp)
    exact ⟨hs _ _ (hne p hp) this.1, this.2⟩
theorem tup_next {T I : Addr} {i : Nat} {items : Array Value} {x : Value} {Q : Option Value → Shared → Prop} {E : Value → Shared → Prop} (F : Fr h₀ L s.heap m) (N : News h₀ L s.heap ((I, titO T i) :: news)) (hne : ∀ p ∈ news, p.1 ≠ I) (hT : (T, tupO items) ∈ news) (hx : items[i]? = some x)
    (h : ∀ h', Fr h₀ L h' m → News h₀ L h' ((I, titO T (i + 1)) :: news) → Q (some x) { s with heap := h' }) : wpAny (model prog w) A (pyNext (.ref I)) Q E s := by
  have hI := N _ (.head _)
  have hTs := N _ (.tail _ hT)
  unfold pyNext
  have hit : s.heap.IsTupleIter I T i := ⟨_, hI.1, rfl, rfl⟩
  refine wpAny_bind (wpAny_attempt (wpAny_callSpecial?_slot (name := Str.ofString "__next__") hit.typeIs PySem.F.slot_tuple_iterator_next
    (wpAny_call_entry PySem.F.slot_tuple_iterator_next hit.typeIs PySem.F.entry_tuple_iterator_next ?_ (PySem.F.args_tuple_iterator_next_1 _))))
  show wpAny _ _ (field (.ref I) 0 >>= _) _ _ s
  refine wpAny_bind (wpAny_field hI.1 rfl (x := .ref T) rfl ?_)
  show wpAny _ _ (if (Value.ref T == Value.none) = true then _ else _) _ _ s
  rw [if_neg (show ¬ ((Value.ref T == Value.none) = true) from Bool.false_ne_true)]
  show wpAny _ _ (field (.ref I) 1 >>= _) _ _ s
  refine wpAny_bind (wpAny_field hI.1 rfl (x := .int i 0) rfl ?_)
  show wpAny _ _ (seqItems? (.ref T) >>= _) _ _ s
  refine wpAny_bind (wpAny_seqItems hTs.1 rfl ?_)
  simp only [Int.toNat_natCast, hx]
  have U := upd_S (f := Obj.mapFields (·.setIfInBounds 1 (rawInt ((i : Int) + 1)))) F N hne rfl
  refine wpAny_bind (wpAny_setField hI.1 rfl (by simp) (wpAny_pure ⟨x, rfl, wpAny_pure (h _ U.1 ?_)⟩))
  exact U.2
theorem For_tup2 {v y : Str} {px py pos : Pos} {body : List Stmt} {T : Addr} {x1 x2 : Value} {Q : Flow → Shared → Prop} {E : Value → Shared → Prop} (F : Fr h₀ L s.heap m) (N : News h₀ L s.heap news) (_hm : m y = some (.ref T)) (hT : (T, tupO #[x1, x2]) ∈ news) (hh : A.handled = none)
    (hev : wpAny (model prog w) A (eval (.Name y py) env) (fun xv s₁ => xv = .ref T ∧ s₁ = s) E s)
    (h1 : ∀ I o h tk, (∀ p ∈ news, p.1 < I) → Fr h₀ L h m → News h₀ L h ((I, o) :: news) → wpAny (model prog w) A (storeName env v x1) (fun _ s₂ => wpAny (model prog w) A (execs body env) (TupStep h₀ L s (fun z => if z = v then some x1 else m z) ((I, o) :: news)) E s₂) E { s with heap := h, toks := tk })
    (h2 : ∀ I o h tk, (∀ p ∈ news, p.1 < I) → Fr h₀ L h (fun z => if z = v then some x1 else m z) → News h₀ L h ((I, o) :: news) → wpAny (model prog w) A (storeName env v x2) (fun _ s₂ => wpAny (model prog w) A (execs body env) (TupStep h₀ L s (fun z => if z = v then some x2 else if z = v then some x1 else m z) ((I, o) :: news)) E s₂) E { s with heap := h, toks := tk })
    (h3 : ∀ h tk, Fr h₀ L h (fun z => if z = v then some x2 else if z = v then some x1 else m z) → News h₀ L h news → Q .next { s with heap := h, toks := tk })
    (hs : ∀ x, foldedSetIterable (.Name y py) env x = pure x) (hE : PassesOwn (model prog w) A env E) :
    wpAny (model prog w) A (exec (.For (.Name v px) (.Name y py) body [] pos) env) Q E s := by
  refine owit_for (wpAny_mono hev (fun xv s₁ h => ?_) fun _ _ e => e) hs hE
  obtain ⟨rfl, rfl⟩ := h
  have hlt : ∀ p ∈ news, p.1 < s₁.heap.objs.size := fun p hp => Heap.lt_size (N p hp).1
  have hne : ∀ p ∈ news, p.1 ≠ s₁.heap.objs.size := fun p hp => Nat.ne_of_lt (hlt p hp)
  refine wpAny_pyIter_tuple ⟨_, (N _ hT).1, rfl, _, rfl⟩ ?_
  have F1 := F.push (titO T 0)
  have N1 := N.push F (titO T 0)
  refine OwitAt.intro (OwitRest.succ (tup_next F1 N1 hne hT (x := x1) rfl fun h' F2 N2 => ?_))
  refine wpAny_mono (h1 _ _ h' s₁.toks hlt F2 N2) (fun _ s₂ hb => wpAny_mono hb (fun f s₃ hf => ?_) fun _ _ e => e) fun _ _ e => e
  obtain ⟨h'', tk, rfl, rfl, F3, N3⟩ := hf.out
  refine OwitRest.succ (tup_next F3 N3 hne hT (x := x2) rfl fun h' F2 N2 => ?_)
  refine wpAny_mono (h2 _ _ h' tk hlt F2 N2) (fun _ s₂ hb => wpAny_mono hb (fun f s₃ hf => ?_) fun _ _ e => e) fun _ _ e => e
  obtain ⟨h'', tk, rfl, rfl, F3, N3⟩ := hf.out
  refine OwitRest.succ (wpAny_pyNext_tuple_end hh ⟨_, (N3 _ (.head _)).1, rfl, rfl⟩ ⟨_, (N3 _ (.tail _ hT)).1, rfl, _, rfl⟩ rfl fun h' hx => ?_)
  obtain ⟨F4, N4⟩ := tup_ext F3 N3 hne hx
  exact h3 h' tk F4 N4
end
end
-- Par
theorem off_Par : True := by (w_top off; exact trivial)
section
local macro_rules | `(tactic| walk_at "never") => `(tactic| fail)
noncomputable abbrev islO (dx : Addr) (cnt it nx st sp : Value) : Obj := { cls := .ref 68, dict := some dx, data := .plain, slots := #[some cnt, some it, some nx, some st, some sp] }
section
variable {w : World} {p : Program} {loose : List Str} {mean : ExcName → Option Value} {mg mb : Str → Option Value} {D U : Nat} {G : Heap}
  {dp un : Nat} {gd : Option (List Code)} {cn : Str} {cs : Scope} {a : Addr} {ccd : Value} {cl : List (Str × Addr)} {outer : List Env} {A₀ : Around} {base h₀ : Heap} {L : Addr} {m : Str → Option Value} {s : Shared} {Q E : Value → Shared → Prop}
  {news : List (Addr × Obj)} {nm : Str} {t : Tok} {N₀ : Nat}
local macro_rules | `(tactic| k_all) => `(tactic| first | assumption | exact hs_ne (by assumption) (by omega) | exact hs_ne (And.right (And.right (by assumption))) (by omega) | exact hs_ne (And.right (by assumption)) (by omega) | exact hs_ne (And.right (And.right (And.right (And.right (by assumption))))) (by omega) | exact List.forall_mem_nil _ | (refine' List.forall_mem_cons.mpr ⟨?a, ?b⟩; (case a => k_ne); (case b => k_all)))
theorem with_Par_1 : True := by
  (k_with "my Par 0" => (show wpAny _ _ (call (.ref 110) [.str _ _]) _ _ _; refine ancestry_spec (G := G) (D := D) (U := U) (by assumption) (by assumption) (by assumption) (by assumption) (by assumption) (by assumption) (by assumption) (by assumption) (by assumption) (by k_room) (by assumption) (by assumption) ?_; (all_goals (intro ag_ cg_ oc_ n1_ n2_ t1_ t2_ gs_ h_ tk_ F_ N_ l1_ l2_ st_; try dsimp only))))
  exact trivial
local macro_rules | `(tactic| walk_at "call ref") => `(tactic| k_extra "my Par 0")
theorem with_Par_2 : True := by
  (k_with "my Par 1" => (refine For_tup2 (by assumption) (by assumption) (by exact rfl) (by k_mem) (by exact rfl) ?_ ?_ ?_ ?_ (by intro _; exact rfl) (by passes_own); (all_goals (first | (with_reducible intro i_ o_ h_ tk_ l_ F_ N_; (try k_lt l_)) | (with_reducible intro h_ tk_ F_ N_) | skip)); (all_goals (try dsimp only))))
  exact trivial
local macro_rules | `(tactic| walk_at "exec For Name Name cons nil") => `(tactic| k_extra "my Par 1")
local macro_rules | `(tactic| walk_at "call builtin:iter") => `(tactic| (refine iter_gen (by assumption) (by k_mem) ?_; (try dsimp only)))
local macro_rules | `(tactic| walk_at "And") => `(tactic| (refine And.intro rfl rfl))
local macro_rules | `(tactic| walk_at "TupStep") => `(tactic| (exact ⟨_, _, rfl, rfl, by assumption, by assumption⟩))
theorem parents_spec
  (B : Below A₀ base outer h₀) (F : Fr h₀ L s.heap m) (X : (hd.heap_39 w.params).In h₀) (N : News h₀ L s.heap news) (T : Top p loose mean mg mb h₀) (hk : cs.kind = .function)
  (hG : G.StaysIn h₀) (XG : (hd.heap_39 w.params).In G) (TG : Top p loose mean mg mb G) (hGs : G.objs.size ≤ h₀.objs.size) (hN : AncN nm N₀)
  (hd : dp + 4 < recursionLimit) (hu : un + 64 < cLine) (hD : D + 6 < recursionLimit) (hU : U + 44 < cLine)
  (hret : ∀ (x dx ag cg : Addr) oc n1 n2 t1 t2 gs tc tn tt tp h' tk', Fr h₀ L h' m → News h₀ L h' ((x, islO dx (.int 0 tc) (.ref ag) (.int 1 tn) (.int 1 tt) (.int (-1) tp)) :: (dx, dictOf [] 0) :: (ag, genO s.gens.size n1 n2 t1 t2) :: (cg, oc) :: news) →
    (∀ p ∈ news, p.1 < cg) → @LT.lt Nat _ cg ag → @LT.lt Nat _ ag dx → @LT.lt Nat _ dx x → AncGo w D U G cg nm N₀ gs oc 0 → Q (.ref x) { s with heap := h', toks := tk', gens := s.gens.push gs }) :
  wpAny (model PySem.Challenge.rw_ij0072_01.row.prog w) (ktrTop dp un gd cn cs L a ccd cl outer) (call (.ref 82) [.str nm t]) Q E s := by
  have hfill : PySem.Challenge.rw_ij0072_01 = PySem.Challenge.rw_ij0072_01 → Mine.hd.heap_39 = Mine.hd.heap_39 → True := by
    k_fill
    intros; trivial
  clear hfill
  refine wpAny_call ?_
  k_dflt (refine' code_defL ?k1 ?k2 ?k3 ?k4 ?k5 ?kA ?kF ?kK ?k6 ?k7 ?k8 ?k9 ?kB ?_ ?c2 ?c3 ?c4 ?c5; (case kA => exact rfl); (case kF => exact rfl); (case kK => assumption); (case k1 => k_asm); (case k2 => k_asm); (case k3 => k_asm); (case k4 => k_asm); (case k5 => k_asm); (case k6 => k_is); (case k7 => k_is); (case k8 => k_room); (case k9 => exact BindsTo.of_eq (binds := [(Str.ofString "path", .str nm t)]) rfl); (case c5 => decide); (case kB => exact locs rfl); (case c2 => exact rfl); (case c3 => exact rfl); (case c4 => exact rfl); k_whole; intro g' L' h' FG' F' N' B' X' T' l1; (try dsimp only); (try k_fold))
  have hG' : G.StaysIn g' := fun b o e => FG'.keep b o (hG b o e)
  have hGs' : G.objs.size ≤ g'.objs.size := Nat.le_trans hGs (Nat.le_trans FG'.above (Nat.le_of_lt FG'.ns.lt))
  k_steps
  rename News h₀ L _ _ => kN
  rename AncGo _ _ _ _ _ _ _ _ _ _ => kS
  have hl1 : ∀ p ∈ news, p.1 < _ := ‹∀ p ∈ news, p.1 < _›
  rename (_ < _ ∧ _ < _ ∧ AllLt _ news) => kA
  rename (_ < _) => kB
  refine hret _ _ _ _ _ _ _ _ _ _ _ _ _ _ _ _ (by assumption) (fun q hq => kN q (.tail _ hq)) ?_ ?_ kA.1 kB kS
  all_goals assumption
end
end
-- Nxt
theorem off_Nxt : True := by (w_top off; exact trivial)
section
local macro_rules | `(tactic| walk_at "never") => `(tactic| fail)
local macro_rules | `(tactic| walk_at "never") => `(tactic| fail)
local macro_rules | `(tactic| walk_at "never") => `(tactic| fail)
local macro_rules | `(tactic| walk_at "never") => `(tactic| fail)
local macro_rules | `(tactic| walk_at "never") => `(tactic| fail)
local macro_rules | `(tactic| walk_at "never") => `(tactic| fail)
local macro_rules | `(tactic| walk_at "never") => `(tactic| fail)
section
variable {prog : Program} {w : World} {A : Around} {E : Value → Shared → Prop} {s : Shared} {env : Env}
noncomputable def WFlow (Q : Flow → Shared → Prop) (rest : Shared → Prop) (f : Flow) (s₃ : Shared) : Prop := match f with
  | .next => rest s₃
  | .cont => rest s₃
  | .brk => Q .next s₃
  | .ret v => Q (.ret v) s₃
noncomputable def WStep (prog : Program) (w : World) (A : Around) (E : Value → Shared → Prop) (env : Env) (test : Expr) (body : List Stmt) (Q : Flow → Shared → Prop) : Nat → Shared → Prop
  | 0, _ => False
  | n + 1, s => wpAny (model prog w) A (isTrue test env (eval test env)) (fun b s₂ => if b = true then wpAny (model prog w) A (execs body env) (WFlow Q (WStep prog w A E env test body Q n)) E s₂ else Q .next s₂) E s
theorem WStep.succ {test : Expr} {body : List Stmt} {Q : Flow → Shared → Prop} {n : Nat} (h : wpAny (model prog w) A (isTrue test env (eval test env)) (fun b s₂ => if b = true then wpAny (model prog w) A (execs body env) (WFlow Q (WStep prog w A E env test body Q n)) E s₂ else Q .next s₂) E s) : WStep prog w A E env test body Q (n + 1) s := h
theorem While_unr {test : Expr} {body : List Stmt} {pos : Pos} {Q : Flow → Shared → Prop} {n : Nat} (h : WStep prog w A E env test body Q n s) (hE : PassesOwn (model prog w) A env E) :
    wpAny (model prog w) A (exec (.While test body [] pos) env) Q E s := by
  refine wpAny_While (codeAny_whileLoop (fun n s' => WStep prog w A E env test body Q n s') ?_ n h)
  intro k s' hk
  cases k with
  | zero => exact hk.elim
  | succ k =>
    refine wpAny_mono (hk : wpAny (model prog w) A (isTrue test env (eval test env)) _ E s') (fun b s₂ h₂ => ?_) hE
    cases b with
    | false =>
      simp only [Bool.false_eq_true, if_false] at h₂ ⊢
      exact wpAny_execs_nil h₂
    | true =>
      simp only [if_true] at h₂ ⊢
      refine wpAny_mono h₂ (fun f s₃ h₃ => ?_) hE
      cases f with
      | next => exact ⟨k, Nat.lt_succ_self k, h₃⟩
      | cont => exact ⟨k, Nat.lt_succ_self k, h₃⟩
      | brk => exact h₃
      | ret _ => exact h₃
end
section
variable {w : World} {p : Program} {loose : List Str} {mean : ExcName → Option Value} {mg mb : Str → Option Value} {D U : Nat} {G : Heap}
  {dp un : Nat} {gd : Option (List Code)} {cn : Str} {cs : Scope} {a : Addr} {ccd : Value} {cl : List (Str × Addr)} {outer : List Env} {A₀ : Around} {base h₀ : Heap} {L : Addr} {m : Str → Option Value} {s : Shared} {Q E : Value → Shared → Prop}
  {news : List (Addr × Obj)} {nm : Str} {t : Tok} {N₀ : Nat}
local macro_rules | `(tactic| k_all) => `(tactic| first | assumption | exact hs_ne (by assumption) (by omega) | exact hs_ne (And.right (And.right (by assumption))) (by omega) | exact hs_ne (And.right (by assumption)) (by omega) | exact hs_ne (And.right (And.right (And.right (And.right (by assumption))))) (by omega) | exact List.forall_mem_nil _ | (refine' List.forall_mem_cons.mpr ⟨?a, ?b⟩; (case a => k_ne); (case b => k_all)))
local macro_rules | `(tactic| walk_at "WStep") => `(tactic| (refine WStep.succ ?_))
local macro_rules | `(tactic| walk_at "WFlow") => `(tactic| (dsimp only [WFlow]))
theorem with_Nxt_1 : True := by
  (k_with "my Nxt 0" => (refine next_item_spec (by assumption) (by assumption) (by assumption) (by assumption) (by assumption) (by assumption) (by omega) (by k_mem) (by k_updF) (by exact rfl) (by assumption) (by assumption) (by omega) ?_; (all_goals (intro t_ h_ tk_ ge_ gs_ oc_ F_ N_ go_ hg_ st_; try dsimp only))))
  exact trivial
local macro_rules | `(tactic| walk_at "call builtin:next") => `(tactic| k_extra "my Nxt 0")
theorem inext_next {S x dx ag cg : Addr} {o oc : Obj} {k : Int} {tc tn tt tp : Tok} {g : Nat} {n1 n2 : Str} {t1 t2 : Tok} {gs : GenState} {j : Nat}
  (B : Below A₀ base outer h₀) (F : Fr h₀ L s.heap m) (X : (hd.heap_39 w.params).In h₀)
  (N : News h₀ L s.heap ((S, o) :: (x, islO dx (.int k tc) (.ref ag) (.int k tn) (.int 1 tt) (.int (-1) tp)) :: (dx, dictOf [] 0) :: (ag, genO g n1 n2 t1 t2) :: (cg, oc) :: news)) (T : Top p loose mean mg mb h₀) (hk : cs.kind = .function)
  (l1 : AllLt cg news) (l2 : @LT.lt Nat _ cg ag) (l3 : @LT.lt Nat _ ag dx) (l4 : @LT.lt Nat _ dx x) (l5 : @LT.lt Nat _ x S)
  (hG : G.StaysIn h₀) (hgs : s.gens[g]? = some gs) (st : AncGo w D U G cg nm N₀ gs oc j) (hj : j < N₀) (hk0 : 0 ≤ k) (hk1 : k ≤ 2000)
  (hd : dp + 4 < recursionLimit) (hu : un + 64 < cLine) (hDd : dp + 1 ≤ D) (hUu : un + 5 ≤ U) (hD : D + 6 < recursionLimit) (hU : U + 44 < cLine)
  (hret : ∀ t tc' tn' h' tk' gens' gs' oc', Fr h₀ L h' m → News h₀ L h' ((S, o) :: (x, islO dx (.int (k + 1) tc') (.ref ag) (.int (k + 1) tn') (.int 1 tt) (.int (-1) tp)) :: (dx, dictOf [] 0) :: (ag, genO g n1 n2 t1 t2) :: (cg, oc') :: news) → GenOnlyQ g s.gens gens' → gens'[g]? = some gs' → AncGo w D U G cg nm N₀ gs' oc' (j + 1) → Q (.str (ancPath nm j) t) { s with heap := h', toks := tk', gens := gens' }) :
  wpAny (model PySem.Challenge.rw_ij0072_01.row.prog w) (ktrTop dp un gd cn cs L a ccd cl outer) (call (.ref 64) [.ref x]) Q E s := by
  have hfill : PySem.Challenge.rw_ij0072_01 = PySem.Challenge.rw_ij0072_01 → Mine.hd.heap_39 = Mine.hd.heap_39 → True := by
    k_fill
    intros; trivial
  clear hfill
  refine wpAny_call ?_
  k_dflt (refine' code_defL ?k1 ?k2 ?k3 ?k4 ?k5 ?kA ?kF ?kK ?k6 ?k7 ?k8 ?k9 ?kB ?_ ?c2 ?c3 ?c4 ?c5; (case kA => exact rfl); (case kF => exact rfl); (case kK => assumption); (case k1 => k_asm); (case k2 => k_asm); (case k3 => k_asm); (case k4 => k_asm); (case k5 => k_asm); (case k6 => k_is); (case k7 => k_is); (case k8 => k_room); (case k9 => exact BindsTo.of_eq (binds := [(Str.ofString "self", .ref x)]) rfl); (case c5 => decide); (case kB => exact locs rfl); (case c2 => exact rfl); (case c3 => exact rfl); (case c4 => exact rfl); k_whole; intro g' L' h' FG' F' N' B' X' T' l6; (try dsimp only); (try k_fold))
  have hG' : G.StaysIn g' := fun b o e => FG'.keep b o (hG b o e)
  k_steps
  refine While_unr (n := 1) ?_ (by passes_own)
  k_steps
  exact hret _ _ _ _ _ _ _ _ (by assumption) (by assumption) (by assumption) (by assumption) (by assumption)
theorem inext_first {S x dx ag cg : Addr} {o oc : Obj} {tc tn tt tp : Tok} {g : Nat} {n1 n2 : Str} {t1 t2 : Tok} {gs : GenState}
  (B : Below A₀ base outer h₀) (F : Fr h₀ L s.heap m) (X : (hd.heap_39 w.params).In h₀)
  (N : News h₀ L s.heap ((S, o) :: (x, islO dx (.int 0 tc) (.ref ag) (.int 1 tn) (.int 1 tt) (.int (-1) tp)) :: (dx, dictOf [] 0) :: (ag, genO g n1 n2 t1 t2) :: (cg, oc) :: news)) (T : Top p loose mean mg mb h₀) (hk : cs.kind = .function)
  (l1 : AllLt cg news) (l2 : @LT.lt Nat _ cg ag) (l3 : @LT.lt Nat _ ag dx) (l4 : @LT.lt Nat _ dx x) (l5 : @LT.lt Nat _ x S)
  (hG : G.StaysIn h₀) (hgs : s.gens[g]? = some gs) (st : AncGo w D U G cg nm N₀ gs oc 0) (hj : 1 < N₀)
  (hd : dp + 4 < recursionLimit) (hu : un + 64 < cLine) (hDd : dp + 1 ≤ D) (hUu : un + 5 ≤ U) (hD : D + 6 < recursionLimit) (hU : U + 44 < cLine)
  (hret : ∀ t tc' tn' h' tk' gens' gs' oc', Fr h₀ L h' m → News h₀ L h' ((S, o) :: (x, islO dx (.int (2) tc') (.ref ag) (.int (2) tn') (.int 1 tt) (.int (-1) tp)) :: (dx, dictOf [] 0) :: (ag, genO g n1 n2 t1 t2) :: (cg, oc') :: news) → GenOnlyQ g s.gens gens' → gens'[g]? = some gs' → AncGo w D U G cg nm N₀ gs' oc' (2) → Q (.str (ancPath nm 1) t) { s with heap := h', toks := tk', gens := gens' }) :
  wpAny (model PySem.Challenge.rw_ij0072_01.row.prog w) (ktrTop dp un gd cn cs L a ccd cl outer) (call (.ref 64) [.ref x]) Q E s := by
  have hfill : PySem.Challenge.rw_ij0072_01 = PySem.Challenge.rw_ij0072_01 → Mine.hd.heap_39 = Mine.hd.heap_39 → True := by
    k_fill
    intros; trivial
  clear hfill
  refine wpAny_call ?_
  k_dflt (refine' code_defL ?k1 ?k2 ?k3 ?k4 ?k5 ?kA ?kF ?kK ?k6 ?k7 ?k8 ?k9 ?kB ?_ ?c2 ?c3 ?c4 ?c5; (case kA => exact rfl); (case kF => exact rfl); (case kK => assumption); (case k1 => k_asm); (case k2 => k_asm); (case k3 => k_asm); (case k4 => k_asm); (case k5 => k_asm); (case k6 => k_is); (case k7 => k_is); (case k8 => k_room); (case k9 => exact BindsTo.of_eq (binds := [(Str.ofString "self", .ref x)]) rfl); (case c5 => decide); (case kB => exact locs rfl); (case c2 => exact rfl); (case c3 => exact rfl); (case c4 => exact rfl); k_whole; intro g' L' h' FG' F' N' B' X' T' l6; (try dsimp only); (try k_fold))
  have hG' : G.StaysIn g' := fun b o e => FG'.keep b o (hG b o e)
  k_steps
  refine While_unr (n := 2) ?_ (by passes_own)
  k_steps
  exact hret _ _ _ _ _ _ _ _ (by assumption) (by assumption) (GenOnlyQ.trans (by assumption) (by assumption)) (by assumption) (by assumption)
end
end
-- Exc
theorem off_Exc : True := by (w_top off; exact trivial)
section
structure StoreStep (h₀ : Heap) (L x dx : Addr) (s : Shared) (m : Str → Option Value) (rest : List (Addr × Obj)) (f : Flow) (s' : Shared) : Prop where
  out : ∃ h' tk o', f = .next ∧ s' = { s with heap := h', toks := tk } ∧ Fr h₀ L h' m ∧ News h₀ L h' ((x, o') :: (dx, dictOf [] 0) :: rest)
theorem funFrames_at {h h' base base' : Heap} (hn : ∀ b, base.get? b = none → base'.get? b = none) (hk : ∀ b o, base.get? b = none → h.get? b = some o → (∀ vs, o.data ≠ .fields vs) → ∃ o', h'.get? b = some o' ∧ ∀ vs, o'.data ≠ .fields vs) : ∀ {l : List Env}, h.FunFrames base l → h'.FunFrames base' l
  | [], _ => trivial
  | _ :: _, ⟨h1, ⟨L, o, h2, h3, h4, h5⟩, h6⟩ => let ⟨o', h7, h8⟩ := hk L o h3 h4 h5; ⟨h1, ⟨L, o', h2, hn L h3, h7, h8⟩, funFrames_at hn hk h6⟩
section
variable {w : World} {p : Program} {loose : List Str} {mean : ExcName → Option Value} {mg mb : Str → Option Value} {A₁ : Around} {base₀ g' : Heap} {outer₁ : List Env} {sc : Scope} {cd : Value} {L' x dx e : Addr} {h₁ : Heap} {m1 : Str → Option Value} {led : List (Addr × Obj)} {s' : Shared} {oX : Obj} {E₀ : Value → Shared → Prop} {Qh : Flow → Shared → Prop} {b₀ : Stmt} {np p4 pos : Pos}
theorem stop_leaves (B' : Below A₁ base₀ outer₁ g') (F1 : Fr g' L' h₁ m1) (N1 : News g' L' h₁ led) (hx : (x, oX) ∈ led) (hdx : (dx, dictOf [] 0) ∈ led) (hxd : dx ≠ x) (X : (hd.heap_39 w.params).In base₀) (T : Top p loose mean mg mb base₀)
    (hm : Heap.MadeExc h₁ s'.heap e "StopIteration" []) (hk : sc.kind = .function) (hbs : base₀.objs.size ≤ g'.objs.size) (hgl : (envOf (Str.ofString "islice.__next__") sc L' 64 cd).kindOf (Str.ofString "BaseException") = some .globalImplicit)
    (hassign : ∀ h₄ rest, (∀ q ∈ rest, q.1 ≠ x) → Fr base₀ L' h₄ m1 → News base₀ L' h₄ ((x, oX) :: (dx, dictOf [] 0) :: rest) →
      wpAny (model PySem.Challenge.rw_ij0072_01.row.prog w) ((A₁.deeper (envOf (Str.ofString "islice.__next__") sc L' 64 cd)).mark (some (.ref e))) (exec b₀ (envOf (Str.ofString "islice.__next__") sc L' 64 cd)) (StoreStep base₀ L' x dx { s' with heap := h₄ } m1 rest)
        (fun e s' => wpAny (model PySem.Challenge.rw_ij0072_01.row.prog w) (A₁.deeper (envOf (Str.ofString "islice.__next__") sc L' 64 cd)) (leaving (envOf (Str.ofString "islice.__next__") sc L' 64 cd) e) (fun _ s'' => E₀ e s'') (fun e' s'' => E₀ e' s'') s') { s' with heap := h₄ })
    (hE : ∀ h₇ tk, (∃ oe, h₇.get? e = some oe ∧ oe.cls = .type "StopIteration") → (∀ b o, h₁.get? b = some o → b ≠ x → b ≠ L' → b ∉ outer₁.filterMap (·.frame) → h₇.get? b = some o) →
      (∀ b o, h₁.get? b = some o → b ≠ L' → b ∈ outer₁.filterMap (·.frame) → ∃ sl, h₇.get? b = some { o with slots := sl }) → E₀ (.ref e) { s' with heap := h₇, toks := tk }) :
    wpAny (model PySem.Challenge.rw_ij0072_01.row.prog w) (A₁.deeper (envOf (Str.ofString "islice.__next__") sc L' 64 cd)) (noteFrame (.ref e) (envOf (Str.ofString "islice.__next__") sc L' 64 cd))
      (fun _ s₂ => wpAny (model PySem.Challenge.rw_ij0072_01.row.prog w) (A₁.deeper (envOf (Str.ofString "islice.__next__") sc L' 64 cd)) (setFlight (.ref e) none) (fun _ s₃ =>
        wpAny (model PySem.Challenge.rw_ij0072_01.row.prog w) (A₁.deeper (envOf (Str.ofString "islice.__next__") sc L' 64 cd)) (handleBy (.ref e) (envOf (Str.ofString "islice.__next__") sc L' 64 cd) [.ExceptHandler (some (.Name (Str.ofString "BaseException") np)) none [b₀, .Raise none none p4] pos]) Qh
          (fun e s' => wpAny (model PySem.Challenge.rw_ij0072_01.row.prog w) (A₁.deeper (envOf (Str.ofString "islice.__next__") sc L' 64 cd)) (leaving (envOf (Str.ofString "islice.__next__") sc L' 64 cd) e) (fun _ s'' => E₀ e s'') (fun e' s'' => E₀ e' s'') s') s₃)
          (fun e s' => wpAny (model PySem.Challenge.rw_ij0072_01.row.prog w) (A₁.deeper (envOf (Str.ofString "islice.__next__") sc L' 64 cd)) (leaving (envOf (Str.ofString "islice.__next__") sc L' 64 cd) e) (fun _ s'' => E₀ e s'') (fun e' s'' => E₀ e' s'') s') s₂)
          (fun e s' => wpAny (model PySem.Challenge.rw_ij0072_01.row.prog w) (A₁.deeper (envOf (Str.ofString "islice.__next__") sc L' 64 cd)) (leaving (envOf (Str.ofString "islice.__next__") sc L' 64 cd) e) (fun _ s'' => E₀ e s'') (fun e' s'' => E₀ e' s'') s') s' := by
  have hfill : PySem.Challenge.rw_ij0072_01 = PySem.Challenge.rw_ij0072_01 → Mine.hd.heap_39 = Mine.hd.heap_39 → True := by
    k_fill
    intros; trivial
  clear hfill
  have BB := pushX (env := envOf (Str.ofString "islice.__next__") sc L' 64 cd) B' F1 rfl hk
  obtain ⟨hkeeps, hnew, t, he, htn, ht⟩ := hm
  have hfr := BB.stack
  have hff := BB.frames
  have hst := BB.stays
  generalize henv : envOf (Str.ofString "islice.__next__") sc L' 64 cd = env at *
  have hfL : env.frame = some L' := henv ▸ rfl
  have hin : ∀ en ∈ (env :: outer₁), ∀ b, en.frame = some b → b ∈ (env :: outer₁).filterMap (·.frame) := fun en he b hb => List.mem_filterMap.mpr ⟨en, he, hb⟩
  have hL'in : L' ∈ (env :: outer₁).filterMap (·.frame) := hin env (.head _) L' hfL
  have sB1 : (hideAll h₁ ((env :: outer₁).filterMap (·.frame))).StaysIn s'.heap := fun b o q => hkeeps b o (of_hideAll _ q)
  have hffB : s'.heap.FunFrames (hideAll h₁ ((env :: outer₁).filterMap (·.frame))) (env :: outer₁) := (funFrames_hide hff hin).of_keeps fun b o q _ => ⟨o, hkeeps b o q, rfl⟩
  have hen : (hideAll h₁ ((env :: outer₁).filterMap (·.frame))).get? e = none := by
    cases q : (hideAll h₁ ((env :: outer₁).filterMap (·.frame))).get? e with
    | none => rfl
    | some o => have := of_hideAll _ q; rw [hnew] at this; cases this
  have baseB : ∀ b o, base₀.get? b = some o → (hideAll h₁ ((env :: outer₁).filterMap (·.frame))).get? b = some o := fun b o q => hideAll_get _ (hst b o q) fun hm => by
    rw [(hff.mem hm).1] at q; cases q
  unfold noteFrame
  simp only [hfL]
  refine wpAny_bind (wpAny_field (x := Value.none) he rfl rfl ?_)
  rw [if_neg (show ¬ ((Value.none != Value.none) = true) by decide)]
  refine wpAny_entryW (a0 := .ref t) hfr hffB hfL he sB1 hen rfl (by simp) rfl (fun h₂ hN => ?_)
  obtain ⟨k1, k2, k3, k4⟩ := hN
  refine wpAny_landsW (s := { s' with heap := h₂ }) (show Heap.HeldW (hideAll h₁ ((env :: outer₁).filterMap (·.frame))) (env :: outer₁) e (.type "StopIteration") (.ref t) L' h₂ from ⟨k1, hen, k2, k3⟩) (fun h₃ hfl3 hsm3 => ?_)
  have sm3 : h₁.UpToSlots h₃ := ((Heap.UpToSlots.of_keeps hkeeps).trans k4).trans hsm3
  have F3 : Fr base₀ L' h₃ m1 := ⟨sm3.ns F1.ns, fun b o q => hfl3.1 b o (baseB b o q), Nat.le_trans hbs F1.above⟩
  obtain ⟨oe3, vs3, he3, hc3, _⟩ := hfl3.first
  subst henv
  refine wpAny_handleBy_builtin (X := "StopIteration") (T := "BaseException") (b := true) (by rw [isSubtype_type]; kernel_rfl) (by rw [isSubtype_type]; kernel_rfl) (by rw [isSubtype_type]; kernel_rfl) ?_
  refine name_B F3 X (topRead_of T) (by k_is) (v := .type "BaseException") (by boot_by_name) (by decide) ⟨rfl, ⟨oe3, he3, hc3⟩, ?_⟩ hk hgl
  rw [if_pos rfl]
  refine lands_againW hfl3 (fun h₄ hfl4 hsm4 => ?_)
  refine wpAny_passesOwnAt (by passes_own) ?_
  refine wpAny_execs_cons ?_
  have sm4 : h₁.UpToSlots h₄ := sm3.trans hsm4
  have F4 : Fr base₀ L' h₄ m1 := ⟨sm4.ns F1.ns, fun b o q => hfl4.1 b o (baseB b o q), F3.above⟩
  have outfs : ∀ b, g'.get? b = none → b ≠ L' → b ∉ ((envOf (Str.ofString "islice.__next__") sc L' 64 cd) :: outer₁).filterMap (·.frame) := fun b hb hbL hm => by
    obtain ⟨en, hen1, hen2⟩ := List.mem_filterMap.mp hm
    rcases List.mem_cons.mp hen1 with rfl | hen1
    · exact hbL (Option.some.inj hen2).symm
    · obtain ⟨_, o, ho, _⟩ := B'.frames.mem (List.mem_filterMap.mpr ⟨en, hen1, hen2⟩)
      rw [hb] at ho; cases ho
  have nled : ∀ b o, (b, o) ∈ led → b ∉ ((envOf (Str.ofString "islice.__next__") sc L' 64 cd) :: outer₁).filterMap (·.frame) := fun b o hb => outfs b (N1 _ hb).2.2 (N1 _ hb).2.1
  have at4 : ∀ b o, (b, o) ∈ led → h₄.get? b = some o := fun b o hb => hfl4.1 b o (hideAll_get _ (N1 _ hb).1 (nled b o hb))
  have nb : ∀ b o, (b, o) ∈ led → base₀.get? b = none := fun b o hb => by
    cases q : base₀.get? b with
    | none => rfl
    | some o' => have := B'.stays b o' q; rw [(N1 _ hb).2.2] at this; cases this
  have hr : ∀ q ∈ (newsOf base₀ L' h₄).filter (fun q => decide (q.1 ≠ x) && decide (q.1 ≠ dx)), q.1 ≠ x := fun q hq => of_decide_eq_true (Bool.and_eq_true_iff.mp (List.mem_filter.mp hq).2).1
  have N4 : News base₀ L' h₄ ((x, oX) :: (dx, dictOf [] 0) :: (newsOf base₀ L' h₄).filter (fun q => decide (q.1 ≠ x) && decide (q.1 ≠ dx))) := fun q hq => by
    rcases List.mem_cons.mp hq with rfl | hq
    · exact ⟨at4 _ _ hx, (N1 _ hx).2.1, nb _ _ hx⟩
    rcases List.mem_cons.mp hq with rfl | hq
    · exact ⟨at4 _ _ hdx, (N1 _ hdx).2.1, nb _ _ hdx⟩
    · exact newsOf_news _ _ _ q (List.mem_filter.mp hq).1
  refine wpAny_mono (hassign h₄ _ hr F4 N4) (fun f s₅ h5 => ?_) fun _ _ z => z
  obtain ⟨h₅, tk5, o', rfl, rfl, F5, N5⟩ := h5.out
  have K45 : ∀ b o, b ≠ x → b ≠ L' → h₄.get? b = some o → h₅.get? b = some o := fun b o hbx hbL q => by
    cases qb : base₀.get? b with
    | some o2 =>
      have := F4.keep b o2 qb
      rw [q] at this; cases this
      exact F5.keep b o qb
    | none =>
      by_cases hbd : b = dx
      · subst hbd
        have := at4 _ _ hdx
        rw [q] at this; cases this
        exact (N5 _ (.tail _ (.head _))).1
      · exact (N5 (b, o) (.tail _ (.tail _ (List.mem_filter.mpr ⟨List.mem_filter.mpr ⟨mem_allOf.mpr q, by simp [hbL, qb]⟩, by simp [hbx, hbd]⟩)))).1
  refine wpAny_execs_cons ?_
  obtain ⟨f1, f2, f3, oe4, vs4, T4, oT4, ts4, he4, hcc4, hd4, h14, hnT4, hTe4, hT4, hdT4, h34⟩ := hfl4
  have hex : e ≠ x := fun q => by
    have := hideAll_get (((envOf (Str.ofString "islice.__next__") sc L' 64 cd) :: outer₁).filterMap (·.frame)) (N1 _ hx).1 (nled _ _ hx)
    rw [q] at f2; rw [f2] at this; cases this
  have hTx : T4 ≠ x := fun q => by
    have := hideAll_get (((envOf (Str.ofString "islice.__next__") sc L' 64 cd) :: outer₁).filterMap (·.frame)) (N1 _ hx).1 (nled _ _ hx)
    rw [q] at hnT4; rw [hnT4] at this; cases this
  obtain ⟨oL4, esL, epL, hL4, hLd4, _⟩ := id F4.ns
  have heL : e ≠ L' := fun q => by rw [q, hL4] at he4; cases he4; rw [hLd4] at hd4; cases hd4
  have hTL : T4 ≠ L' := fun q => by rw [q, hL4] at hT4; cases hT4; rw [hLd4] at hdT4; cases hdT4
  have hid : ∀ b, (hideAll h₁ (((envOf (Str.ofString "islice.__next__") sc L' 64 cd) :: outer₁).filterMap (·.frame))).get? b = none → (hideAll h₁ (x :: ((envOf (Str.ofString "islice.__next__") sc L' 64 cd) :: outer₁).filterMap (·.frame))).get? b = none := fun b hb => by
    cases q : (hideAll h₁ (x :: ((envOf (Str.ofString "islice.__next__") sc L' 64 cd) :: outer₁).filterMap (·.frame))).get? b with
    | none => rfl
    | some o =>
      by_cases hbm : b ∈ x :: ((envOf (Str.ofString "islice.__next__") sc L' 64 cd) :: outer₁).filterMap (·.frame)
      · rw [hideAll_none _ hbm] at q; cases q
      · rw [hideAll_get _ (of_hideAll _ q) (fun hm => hbm (.tail _ hm))] at hb; cases hb
  have fly5 : Heap.FlyingW (hideAll h₁ (x :: ((envOf (Str.ofString "islice.__next__") sc L' 64 cd) :: outer₁).filterMap (·.frame))) ((envOf (Str.ofString "islice.__next__") sc L' 64 cd) :: outer₁) e (.type "StopIteration") (.ref t) h₅ := by
    refine ⟨fun b o q => ?_, hid _ f2, funFrames_at hid (fun b o hbn q hnf => ?_) f3, oe4, vs4, T4, oT4, ts4, K45 _ _ hex heL he4, hcc4, hd4, h14, hid _ hnT4, hTe4, K45 _ _ hTx hTL hT4, hdT4, h34⟩
    · have hbm : b ∉ x :: ((envOf (Str.ofString "islice.__next__") sc L' 64 cd) :: outer₁).filterMap (·.frame) := fun hm => by rw [hideAll_none _ hm] at q; cases q
      exact K45 b o (fun q => hbm (by rw [q]; exact .head _)) (fun q => hbm (by rw [q]; exact .tail _ hL'in)) (f1 b o (hideAll_get _ (of_hideAll _ q) fun hm => hbm (.tail _ hm)))
    · by_cases hbL : b = L'
      · subst hbL
        obtain ⟨oL5, es5, ep5, hL5, hLd5, _⟩ := F5.ns
        exact ⟨oL5, hL5, fun vs q => by rw [hLd5] at q; cases q⟩
      · by_cases hbx : b = x
        · subst hbx
          rw [hideAll_get _ (N1 _ hx).1 (nled _ _ hx)] at hbn; cases hbn
        · exact ⟨o, K45 b o hbx hbL q, hnf⟩
  have env0 : (envOf (Str.ofString "islice.__next__") sc L' 64 cd).frame = some L' := rfl
  show wpAny _ _ (do standAt p4; raiseStmt (envOf (Str.ofString "islice.__next__") sc L' 64 cd) none none) _ _ _
  unfold raiseStmt
  refine wpAny_bind (wpAny_standAt ?_)
  dsimp only
  refine wpAny_bind (wpAny_handled ?_)
  rw [show ((A₁.deeper (envOf (Str.ofString "islice.__next__") sc L' 64 cd)).mark (some (.ref e))).handled = some (.ref e) from rfl]
  dsimp only
  refine wpAny_bind (wpAny_rule (wpAny_bind (wpAny_field (x := .ref T4) (K45 _ _ hex heL he4) hd4 h14 ?_)))
  rw [if_neg (show ¬ ((Value.ref T4 == Value.none) = true) from by simp)]
  refine wpAny_bind (setFlight_onW fly5 fun h₆ held6 hsm6 => wpAny_throw ?_)
  show wpAny _ _ (leaving (envOf (Str.ofString "islice.__next__") sc L' 64 cd) (.ref e)) _ _ _
  unfold leaving
  refine wpAny_bind (wpAny_noteFrame_againW rfl held6.2.2.2 ?_)
  refine wpAny_landsW held6 fun h₇ hfl7 hsm7 => ?_
  refine hE h₇ tk5 (let ⟨oe, _, h1, h2, _⟩ := hfl7.first; ⟨oe, h1, h2⟩) (fun b o q hbx hbL hbo => ?_) (fun b o q hbL hbo => ?_)
  · refine hfl7.1 b o (hideAll_get _ q fun hm => ?_)
    rcases List.mem_cons.mp hm with rfl | hm
    · exact hbx rfl
    · rcases kts_mem hm with z | z
      · exact hbL z
      · exact hbo z
  · have hnf : ∀ vs, o.data ≠ .fields vs := fun vs hv => by
      obtain ⟨_, o2, ho2, hd2⟩ := B'.frames.mem hbo
      have := F1.keep _ _ ho2
      rw [q] at this; cases this
      exact hd2 vs hv
    obtain ⟨sl, hs⟩ := sm4 b o q hnf
    have hbx : b ≠ x := fun z => by
      obtain ⟨_, o2, ho2, _⟩ := B'.frames.mem hbo
      rw [z, (N1 _ hx).2.2] at ho2; cases ho2
    have s5 := K45 b _ hbx hbL hs
    obtain ⟨sl6, hs6⟩ := hsm6 b _ s5 hnf
    obtain ⟨sl7, hs7⟩ := hsm7 b _ hs6 hnf
    exact ⟨sl7, hs7⟩
end
end
-- Stp
theorem off_Stp : True := by (w_top off; exact trivial)
section
local macro_rules | `(tactic| walk_at "never") => `(tactic| fail)
noncomputable def Turned (A₀ : Around) (base : Heap) (outer : List Env) (h₀ : Heap) (L : Addr) (m : Str → Option Value) (l : List (Addr × Obj)) (h : Heap) : Prop :=
  ∃ g₂, KtsTurn (outer.filterMap (·.frame)) h₀ g₂ ∧ Fr g₂ L h m ∧ News g₂ L h l ∧ Below A₀ base outer g₂
theorem turn_at {A₀ : Around} {base h₀ g' h₁ h₇ : Heap} {outer : List Env} {envC : Env} {L L' x : Addr} {m m1 : Str → Option Value} {led l : List (Addr × Obj)} (B : Below A₀ base outer h₀) (hfC : envC.frame = some L) (FG : Fr h₀ L g' m) (F1 : Fr g' L' h₁ m1) (N1 : News g' L' h₁ led) (BG : ∀ b, b ∈ (envC :: outer).filterMap (·.frame) → ∃ o, g'.get? b = some o) (hx : g'.get? x = none)
    (h2 : ∀ b o, h₁.get? b = some o → b ≠ x → b ≠ L' → b ∉ (envC :: outer).filterMap (·.frame) → h₇.get? b = some o)
    (h3 : ∀ b o, h₁.get? b = some o → b ≠ L' → b ∈ (envC :: outer).filterMap (·.frame) → ∃ sl, h₇.get? b = some { o with slots := sl })
    (hl : ∀ q ∈ l, q ∈ led ∧ q.1 ≠ x ∧ q.1 ≠ L ∧ h₀.get? q.1 = none) : Turned A₀ base outer h₀ L m l h₇ := by
  have nL' : g'.get? L' = none := kts_self F1
  have gneL' : ∀ b o, g'.get? b = some o → b ≠ L' := fun b o q z => by rw [z, nL'] at q; cases q
  have gnex : ∀ b o, g'.get? b = some o → b ≠ x := fun b o q z => by rw [z, hx] at q; cases q
  have nL : h₀.get? L = none := kts_self FG
  have mem2 : ∀ b, b ∈ (envC :: outer).filterMap (·.frame) → b = L ∨ b ∈ outer.filterMap (·.frame) := fun b hm => by
    obtain ⟨env, he, hf⟩ := List.mem_filterMap.mp hm
    rcases List.mem_cons.mp he with rfl | he
    · exact .inl (Option.some.inj (hf.symm.trans hfC))
    · exact .inr (List.mem_filterMap.mpr ⟨env, he, hf⟩)
  obtain ⟨T, S⟩ := kts_turn_at (h := h₇) (fs := outer.filterMap (·.frame)) (g := h₀)
    (fun b hb => by
      obtain ⟨_, o, ho, _⟩ := B.frames.mem hb
      exact ⟨o, ho⟩)
    (fun b o q nm => h2 b o (F1.keep b o (FG.keep b o q)) (gnex b o (FG.keep b o q)) (gneL' b o (FG.keep b o q)) fun hm => by
      rcases mem2 b hm with z | z
      · rw [z, nL] at q; cases q
      · exact nm z)
    (fun b o q hm => h3 b o (F1.keep b o (FG.keep b o q)) (gneL' b o (FG.keep b o q)) (by
      obtain ⟨env, he, hf⟩ := List.mem_filterMap.mp hm
      exact List.mem_filterMap.mpr ⟨env, .tail _ he, hf⟩))
  obtain ⟨oL, es, ep, hL, hLd, r1, r2⟩ := FG.ns
  have hLm : L ∈ (envC :: outer).filterMap (·.frame) := List.mem_filterMap.mpr ⟨envC, .head _, hfC⟩
  obtain ⟨sl, hsl⟩ := h3 L oL (F1.keep _ _ hL) (gneL' _ _ hL) hLm
  refine ⟨_, T, ⟨⟨_, es, ep, hsl, hLd, r1, r2⟩, S, by rw [T.size]; exact FG.above⟩, fun q hq => ?_, ⟨B.stack, fun b o e => T.other b o (B.stays b o e) (fun hm => by
    rw [(B.frames.mem hm).1] at e
    cases e), B.frames.of_keeps fun b o e _ => ?_⟩⟩
  · obtain ⟨q1, q2, q3, q4⟩ := hl q hq
    have n := N1 q q1
    refine ⟨h2 _ _ n.1 q2 n.2.1 fun hm => ?_, q3, T.none_ _ q4⟩
    obtain ⟨o, ho⟩ := BG _ hm
    rw [n.2.2] at ho; cases ho
  · obtain ⟨sl, hs⟩ := T.up e
    exact ⟨_, hs, rfl⟩
section
variable {w : World} {p : Program} {loose : List Str} {mean : ExcName → Option Value} {mg mb : Str → Option Value} {D U : Nat} {G : Heap}
  {dp un : Nat} {gd : Option (List Code)} {cn : Str} {cs : Scope} {a : Addr} {ccd : Value} {cl : List (Str × Addr)} {outer : List Env} {A₀ : Around} {base h₀ : Heap} {L : Addr} {m : Str → Option Value} {s : Shared} {Q E : Value → Shared → Prop}
  {news : List (Addr × Obj)} {nm : Str} {t : Tok} {N₀ : Nat}
local macro_rules | `(tactic| k_all) => `(tactic| first | assumption | exact hs_ne (by assumption) (by omega) | exact hs_ne (And.right (And.right (by assumption))) (by omega) | exact hs_ne (And.right (by assumption)) (by omega) | exact hs_ne (And.right (And.right (And.right (And.right (by assumption))))) (by omega) | exact List.forall_mem_nil _ | (refine' List.forall_mem_cons.mpr ⟨?a, ?b⟩; (case a => k_ne); (case b => k_all)))
local macro_rules | `(tactic| walk_at "WStep") => `(tactic| (refine WStep.succ ?_))
local macro_rules | `(tactic| walk_at "WFlow") => `(tactic| (dsimp only [WFlow]))
theorem with_Stp_1 : True := by
  (k_with "my Stp 0" => (refine next_item_spec (by assumption) (by assumption) (by assumption) (by assumption) (by assumption) (by assumption) (by omega) (by k_mem) (by k_updF) (by exact rfl) (by assumption) (by assumption) (by omega) ?_; (all_goals (intro t_ h_ tk_ ge_ gs_ oc_ F_ N_ go_ hg_ st_; try dsimp only))))
  exact trivial
local macro_rules | `(tactic| walk_at "call builtin:next") => `(tactic| k_extra "my Stp 0")
theorem with_Stp_2 : True := by
  (k_with "my Stp 1" => (refine next_stop_spec (by assumption) (by assumption) (by assumption) (by assumption) (by assumption) (by assumption) (by k_mem) (by k_updF) (by exact rfl) (by assumption) (by assumption) (by omega) ?_; (all_goals (intro h1_ h_ e_ tk_ ge_ oc_ F_ N_ me_ go_; try dsimp only))))
  exact trivial
local macro_rules | `(tactic| walk_at "call builtin:next") => `(tactic| k_extra "my Stp 1")
theorem istop_on {S x dx ag cg : Addr} {o oc : Obj} {k : Int} {tc tn tt tp : Tok} {g : Nat} {n1 n2 : Str} {t1 t2 : Tok} {gs : GenState} {j : Nat}
  (B : Below A₀ base outer h₀) (F : Fr h₀ L s.heap m) (X : (hd.heap_39 w.params).In h₀)
  (N : News h₀ L s.heap ((S, o) :: (x, islO dx (.int k tc) (.ref ag) (.int k tn) (.int 1 tt) (.int (-1) tp)) :: (dx, dictOf [] 0) :: (ag, genO g n1 n2 t1 t2) :: (cg, oc) :: news)) (T : Top p loose mean mg mb h₀) (hk : cs.kind = .function)
  (l1 : AllLt cg news) (l2 : @LT.lt Nat _ cg ag) (l3 : @LT.lt Nat _ ag dx) (l4 : @LT.lt Nat _ dx x) (l5 : @LT.lt Nat _ x S)
  (hG : G.StaysIn h₀) (hgs : s.gens[g]? = some gs) (st : AncGo w D U G cg nm j gs oc j) (hk0 : 0 ≤ k) (hk1 : k ≤ 2000)
  (hd : dp + 4 < recursionLimit) (hu : un + 64 < cLine) (hDd : dp + 1 ≤ D) (hUu : un + 5 ≤ U) (hD : D + 6 < recursionLimit) (hU : U + 44 < cLine) (Xb : (Mine.hd.heap_39 w.params).In base) (Tb : Top p loose mean mg mb base) (hbs : base.objs.size ≤ h₀.objs.size)
  (hE : ∀ e h₇ tk gens', (∃ oe, h₇.get? e = some oe ∧ oe.cls = .type "StopIteration") → Turned A₀ base outer h₀ L m ((S, o) :: news) h₇ → GenOnlyQ g s.gens gens' → E (.ref e) { s with heap := h₇, toks := tk, gens := gens' }) :
  wpAny (model PySem.Challenge.rw_ij0072_01.row.prog w) (ktrTop dp un gd cn cs L a ccd cl outer) (call (.ref 64) [.ref x]) Q E s := by
  have hfill : PySem.Challenge.rw_ij0072_01 = PySem.Challenge.rw_ij0072_01 → Mine.hd.heap_39 = Mine.hd.heap_39 → True := by
    k_fill
    intros; trivial
  clear hfill
  refine wpAny_call ?_
  k_dflt (refine' code_defL ?k1 ?k2 ?k3 ?k4 ?k5 ?kA ?kF ?kK ?k6 ?k7 ?k8 ?k9 ?kB ?_ ?c2 ?c3 ?c4 ?c5; (case kA => exact rfl); (case kF => exact rfl); (case kK => assumption); (case k1 => k_asm); (case k2 => k_asm); (case k3 => k_asm); (case k4 => k_asm); (case k5 => k_asm); (case k6 => k_is); (case k7 => k_is); (case k8 => k_room); (case k9 => exact BindsTo.of_eq (binds := [(Str.ofString "self", .ref x)]) rfl); (case c5 => decide); (case kB => exact locs rfl); (case c2 => exact rfl); (case c3 => exact rfl); (case c4 => exact rfl); k_whole; intro g' L' h' FG' F' N' B' X' T' l6; (try dsimp only); (try k_fold))
  have hG' : G.StaysIn g' := fun b o e => FG'.keep b o (hG b o e)
  k_steps
  refine While_unr (n := 1) ?_ (by passes_own)
  k_steps
  rename Heap.MadeExc _ _ _ _ _ => kM
  rename GenOnlyQ _ _ _ => kG
  rename Fr g' L' _ _ => kF
  rename News g' L' _ _ => kN
  refine stop_leaves (dx := dx) (x := x) (led := _) B' kF kN (by k_mem) (by k_mem) (Nat.ne_of_lt l4) Xb Tb kM rfl (Nat.le_trans hbs (Nat.le_trans FG'.above (Nat.le_of_lt FG'.ns.lt))) rfl ?_ ?_
  · intro h₄ rest hr F4 N4
    k_steps
    exact ⟨_, _, _, rfl, rfl, by assumption, by assumption⟩
  · intro h₇ tk7 hoe h2 h3
    refine hE _ h₇ tk7 _ hoe (turn_at B rfl FG' kF kN (fun b hb => let ⟨_, o, ho, _⟩ := B'.frames.mem hb; ⟨o, ho⟩) ((kN _ (.tail _ (.head _))).2.2) h2 h3 (fun q hq => ?_)) kG
    rcases List.mem_cons.mp hq with rfl | hq
    · exact ⟨.head _, Nat.ne_of_gt l5, (N _ (.head _)).2⟩
    · exact ⟨.tail _ (.tail _ (.tail _ (.tail _ (.tail _ hq)))), Nat.ne_of_lt (Nat.lt_trans (Nat.lt_trans (Nat.lt_trans (ktn_ltOf l1 q hq) l2) l3) l4), (N _ (.tail _ (.tail _ (.tail _ (.tail _ (.tail _ hq)))))).2⟩
--ONE
theorem istop_one {S x dx ag cg : Addr} {o oc : Obj} {tc tn tt tp : Tok} {g : Nat} {n1 n2 : Str} {t1 t2 : Tok} {gs : GenState}
  (B : Below A₀ base outer h₀) (F : Fr h₀ L s.heap m) (X : (hd.heap_39 w.params).In h₀)
  (N : News h₀ L s.heap ((S, o) :: (x, islO dx (.int 0 tc) (.ref ag) (.int 1 tn) (.int 1 tt) (.int (-1) tp)) :: (dx, dictOf [] 0) :: (ag, genO g n1 n2 t1 t2) :: (cg, oc) :: news)) (T : Top p loose mean mg mb h₀) (hk : cs.kind = .function)
  (l1 : AllLt cg news) (l2 : @LT.lt Nat _ cg ag) (l3 : @LT.lt Nat _ ag dx) (l4 : @LT.lt Nat _ dx x) (l5 : @LT.lt Nat _ x S)
  (hG : G.StaysIn h₀) (hgs : s.gens[g]? = some gs) (st : AncGo w D U G cg nm 1 gs oc 0)
  (hd : dp + 4 < recursionLimit) (hu : un + 64 < cLine) (hDd : dp + 1 ≤ D) (hUu : un + 5 ≤ U) (hD : D + 6 < recursionLimit) (hU : U + 44 < cLine) (Xb : (Mine.hd.heap_39 w.params).In base) (Tb : Top p loose mean mg mb base) (hbs : base.objs.size ≤ h₀.objs.size)
  (hE : ∀ e h₇ tk gens', (∃ oe, h₇.get? e = some oe ∧ oe.cls = .type "StopIteration") → Turned A₀ base outer h₀ L m ((S, o) :: news) h₇ → GenOnlyQ g s.gens gens' → E (.ref e) { s with heap := h₇, toks := tk, gens := gens' }) :
  wpAny (model PySem.Challenge.rw_ij0072_01.row.prog w) (ktrTop dp un gd cn cs L a ccd cl outer) (call (.ref 64) [.ref x]) Q E s := by
  have hfill : PySem.Challenge.rw_ij0072_01 = PySem.Challenge.rw_ij0072_01 → Mine.hd.heap_39 = Mine.hd.heap_39 → True := by
    k_fill
    intros; trivial
  clear hfill
  refine wpAny_call ?_
  k_dflt (refine' code_defL ?k1 ?k2 ?k3 ?k4 ?k5 ?kA ?kF ?kK ?k6 ?k7 ?k8 ?k9 ?kB ?_ ?c2 ?c3 ?c4 ?c5; (case kA => exact rfl); (case kF => exact rfl); (case kK => assumption); (case k1 => k_asm); (case k2 => k_asm); (case k3 => k_asm); (case k4 => k_asm); (case k5 => k_asm); (case k6 => k_is); (case k7 => k_is); (case k8 => k_room); (case k9 => exact BindsTo.of_eq (binds := [(Str.ofString "self", .ref x)]) rfl); (case c5 => decide); (case kB => exact locs rfl); (case c2 => exact rfl); (case c3 => exact rfl); (case c4 => exact rfl); k_whole; intro g' L' h' FG' F' N' B' X' T' l6; (try dsimp only); (try k_fold))
  have hG' : G.StaysIn g' := fun b o e => FG'.keep b o (hG b o e)
  k_steps
  refine While_unr (n := 2) ?_ (by passes_own)
  k_steps
  rename Heap.MadeExc _ _ _ _ _ => kM
  have kG := GenOnlyQ.trans ‹GenOnlyQ g s.gens _› ‹GenOnlyQ g _ _›
  rename Fr g' L' _ _ => kF
  rename News g' L' _ _ => kN
  refine stop_leaves (dx := dx) (x := x) (led := _) B' kF kN (by k_mem) (by k_mem) (Nat.ne_of_lt l4) Xb Tb kM rfl (Nat.le_trans hbs (Nat.le_trans FG'.above (Nat.le_of_lt FG'.ns.lt))) rfl ?_ ?_
  · intro h₄ rest hr F4 N4
    k_steps
    exact ⟨_, _, _, rfl, rfl, by assumption, by assumption⟩
  · intro h₇ tk7 hoe h2 h3
    refine hE _ h₇ tk7 _ hoe (turn_at B rfl FG' kF kN (fun b hb => let ⟨_, o, ho, _⟩ := B'.frames.mem hb; ⟨o, ho⟩) ((kN _ (.tail _ (.head _))).2.2) h2 h3 (fun q hq => ?_)) kG
    rcases List.mem_cons.mp hq with rfl | hq
    · exact ⟨.head _, Nat.ne_of_gt l5, (N _ (.head _)).2⟩
    · exact ⟨.tail _ (.tail _ (.tail _ (.tail _ (.tail _ hq)))), Nat.ne_of_lt (Nat.lt_trans (Nat.lt_trans (Nat.lt_trans (ktn_ltOf l1 q hq) l2) l3) l4), (N _ (.tail _ (.tail _ (.tail _ (.tail _ (.tail _ hq)))))).2⟩
--ZERO
theorem istop_zero {S x dx ag cg : Addr} {o oc : Obj} {tc tn tt tp : Tok} {g : Nat} {n1 n2 : Str} {t1 t2 : Tok} {gs : GenState}
  (B : Below A₀ base outer h₀) (F : Fr h₀ L s.heap m) (X : (hd.heap_39 w.params).In h₀)
  (N : News h₀ L s.heap ((S, o) :: (x, islO dx (.int 0 tc) (.ref ag) (.int 1 tn) (.int 1 tt) (.int (-1) tp)) :: (dx, dictOf [] 0) :: (ag, genO g n1 n2 t1 t2) :: (cg, oc) :: news)) (T : Top p loose mean mg mb h₀) (hk : cs.kind = .function)
  (l1 : AllLt cg news) (l2 : @LT.lt Nat _ cg ag) (l3 : @LT.lt Nat _ ag dx) (l4 : @LT.lt Nat _ dx x) (l5 : @LT.lt Nat _ x S)
  (hG : G.StaysIn h₀) (hgs : s.gens[g]? = some gs) (st : AncGo w D U G cg nm 0 gs oc 0)
  (hd : dp + 4 < recursionLimit) (hu : un + 64 < cLine) (hDd : dp + 1 ≤ D) (hUu : un + 5 ≤ U) (hD : D + 6 < recursionLimit) (hU : U + 44 < cLine) (Xb : (Mine.hd.heap_39 w.params).In base) (Tb : Top p loose mean mg mb base) (hbs : base.objs.size ≤ h₀.objs.size)
  (hE : ∀ e h₇ tk gens', (∃ oe, h₇.get? e = some oe ∧ oe.cls = .type "StopIteration") → Turned A₀ base outer h₀ L m ((S, o) :: news) h₇ → GenOnlyQ g s.gens gens' → E (.ref e) { s with heap := h₇, toks := tk, gens := gens' }) :
  wpAny (model PySem.Challenge.rw_ij0072_01.row.prog w) (ktrTop dp un gd cn cs L a ccd cl outer) (call (.ref 64) [.ref x]) Q E s := by
  have hfill : PySem.Challenge.rw_ij0072_01 = PySem.Challenge.rw_ij0072_01 → Mine.hd.heap_39 = Mine.hd.heap_39 → True := by
    k_fill
    intros; trivial
  clear hfill
  refine wpAny_call ?_
  k_dflt (refine' code_defL ?k1 ?k2 ?k3 ?k4 ?k5 ?kA ?kF ?kK ?k6 ?k7 ?k8 ?k9 ?kB ?_ ?c2 ?c3 ?c4 ?c5; (case kA => exact rfl); (case kF => exact rfl); (case kK => assumption); (case k1 => k_asm); (case k2 => k_asm); (case k3 => k_asm); (case k4 => k_asm); (case k5 => k_asm); (case k6 => k_is); (case k7 => k_is); (case k8 => k_room); (case k9 => exact BindsTo.of_eq (binds := [(Str.ofString "self", .ref x)]) rfl); (case c5 => decide); (case kB => exact locs rfl); (case c2 => exact rfl); (case c3 => exact rfl); (case c4 => exact rfl); k_whole; intro g' L' h' FG' F' N' B' X' T' l6; (try dsimp only); (try k_fold))
  have hG' : G.StaysIn g' := fun b o e => FG'.keep b o (hG b o e)
  k_steps
  refine While_unr (n := 2) ?_ (by passes_own)
  k_steps
  rename Heap.MadeExc _ _ _ _ _ => kM
  rename GenOnlyQ _ _ _ => kG
  rename Fr g' L' _ _ => kF
  rename News g' L' _ _ => kN
  refine stop_leaves (dx := dx) (x := x) (led := _) B' kF kN (by k_mem) (by k_mem) (Nat.ne_of_lt l4) Xb Tb kM rfl (Nat.le_trans hbs (Nat.le_trans FG'.above (Nat.le_of_lt FG'.ns.lt))) rfl ?_ ?_
  · intro h₄ rest hr F4 N4
    k_steps
    exact ⟨_, _, _, rfl, rfl, by assumption, by assumption⟩
  · intro h₇ tk7 hoe h2 h3
    refine hE _ h₇ tk7 _ hoe (turn_at B rfl FG' kF kN (fun b hb => let ⟨_, o, ho, _⟩ := B'.frames.mem hb; ⟨o, ho⟩) ((kN _ (.tail _ (.head _))).2.2) h2 h3 (fun q hq => ?_)) kG
    rcases List.mem_cons.mp hq with rfl | hq
    · exact ⟨.head _, Nat.ne_of_gt l5, (N _ (.head _)).2⟩
    · exact ⟨.tail _ (.tail _ (.tail _ (.tail _ (.tail _ hq)))), Nat.ne_of_lt (Nat.lt_trans (Nat.lt_trans (Nat.lt_trans (ktn_ltOf l1 q hq) l2) l3) l4), (N _ (.tail _ (.tail _ (.tail _ (.tail _ (.tail _ hq)))))).2⟩
end
end
-- Isl
theorem off_Isl : True := by (w_top off; exact trivial)
section
section
variable {w : World} {p : Program} {loose : List Str} {mean : ExcName → Option Value} {mg mb : Str → Option Value} {D U : Nat} {G : Heap}
  {dp un : Nat} {gd : Option (List Code)} {cn : Str} {cs : Scope} {a : Addr} {ccd : Value} {cl : List (Str × Addr)} {outer : List Env} {A₀ : Around} {base h₀ : Heap} {L : Addr} {m : Str → Option Value} {s : Shared}
  {news : List (Addr × Obj)} {nm : Str} {t : Tok} {N₀ : Nat}
theorem iter_self_spec {Q E : Value → Shared → Prop} {x : Addr} (B : Below A₀ base outer h₀) (F : Fr h₀ L s.heap m) (X : (hd.heap_39 w.params).In h₀) (N : News h₀ L s.heap news) (T : Top p loose mean mg mb h₀) (hk : cs.kind = .function)
  (hd : dp + 4 < recursionLimit)
  (hret : ∀ h' tk', Fr h₀ L h' m → News h₀ L h' news → Q (.ref x) { s with heap := h', toks := tk' }) :
  wpAny (model PySem.Challenge.rw_ij0072_01.row.prog w) (ktrTop dp un gd cn cs L a ccd cl outer) (call (.ref 57) [.ref x]) Q E s := by
  have hfill : PySem.Challenge.rw_ij0072_01 = PySem.Challenge.rw_ij0072_01 → Mine.hd.heap_39 = Mine.hd.heap_39 → True := by
    k_fill
    intros; trivial
  clear hfill
  refine wpAny_call ?_
  k_dflt (refine' code_defL ?k1 ?k2 ?k3 ?k4 ?k5 ?kA ?kF ?kK ?k6 ?k7 ?k8 ?k9 ?kB ?_ ?c2 ?c3 ?c4 ?c5; (case kA => exact rfl); (case kF => exact rfl); (case kK => assumption); (case k1 => k_asm); (case k2 => k_asm); (case k3 => k_asm); (case k4 => k_asm); (case k5 => k_asm); (case k6 => k_is); (case k7 => k_is); (case k8 => k_room); (case k9 => exact BindsTo.of_eq (binds := [(Str.ofString "self", .ref x)]) rfl); (case c5 => decide); (case kB => exact locs rfl); (case c2 => exact rfl); (case c3 => exact rfl); (case c4 => exact rfl); k_whole; intro g' L' h' FG' F' N' B' X' T' l6; (try dsimp only); (try k_fold))
  k_steps
  exact hret _ _ (by assumption) (by assumption)
inductive IslJ (w : World) (D U : Nat) (G : Heap) (cg : Addr) (nm : Str) (N₀ : Nat) (x dx ag : Addr) (gO : Obj) (g : Nat) (news : List (Addr × Obj)) : Nat → List (Addr × Obj) → Array GenState → Prop
  | start {gens : Array GenState} {gs : GenState} {oC : Obj} {tc tn tt tp : Tok} (hg : gens[g]? = some gs) (st : AncGo w D U G cg nm N₀ gs oC 0) (hb : AllBare gens) :
      IslJ w D U G cg nm N₀ x dx ag gO g news 0 ((x, islO dx (.int 0 tc) (.ref ag) (.int 1 tn) (.int 1 tt) (.int (-1) tp)) :: (dx, dictOf [] 0) :: (ag, gO) :: (cg, oC) :: news) gens
  | on {k : Nat} {gens : Array GenState} {gs : GenState} {oC : Obj} {tc tn tt tp : Tok} (hk : k + 2 ≤ N₀) (hg : gens[g]? = some gs) (st : AncGo w D U G cg nm N₀ gs oC (k + 2)) (hb : AllBare gens) :
      IslJ w D U G cg nm N₀ x dx ag gO g news (k + 1) ((x, islO dx (.int ((k + 2 : Nat) : Int) tc) (.ref ag) (.int ((k + 2 : Nat) : Int) tn) (.int 1 tt) (.int (-1) tp)) :: (dx, dictOf [] 0) :: (ag, gO) :: (cg, oC) :: news) gens
theorem inst_isl {x dx : Addr} {sl : Array (Option Value)} {l : List (Addr × Obj)} (N : News h₀ L s.heap l) (h1 : (x, (⟨.ref 68, some dx, .plain, sl⟩ : Obj)) ∈ l) (h2 : (dx, dictOf [] 0) ∈ l) : InstAt s.heap x ⟨.ref 68, some dx, .plain, sl⟩ 68 (some (dictOf [] 0)) :=
  InstAt.of_news N h1 h2
theorem isl_iter {x dx ag cg : Addr} {g : Nat} {n1 n2 : Str} {t1 t2 : Tok} (B : Below A₀ base outer h₀) (X : (hd.heap_39 w.params).In h₀) (T : Top p loose mean mg mb h₀) (hk : cs.kind = .function)
  (l1 : AllLt cg news) (l2 : @LT.lt Nat _ cg ag) (l3 : @LT.lt Nat _ ag dx) (l4 : @LT.lt Nat _ dx x) (hG : G.StaysIn h₀) (hN1 : N₀ ≤ 1000)
  (Xb : (Mine.hd.heap_39 w.params).In base) (Tb : Top p loose mean mg mb base) (hbs : base.objs.size ≤ h₀.objs.size)
  (hd : dp + 4 < recursionLimit) (hu : un + 64 < cLine) (hDd : dp + 1 ≤ D) (hUu : un + 5 ≤ U) (hD : D + 6 < recursionLimit) (hU : U + 44 < cLine) :
    IterOn (model PySem.Challenge.rw_ij0072_01.row.prog w) (ktrTop dp un gd cn cs L a ccd cl outer) x h₀ L m (N₀ - 1) (fun j v => ∃ t, v = .str (ancPath nm (j + 1)) t) (IslJ w D U G cg nm N₀ x dx ag (genO g n1 n2 t1 t2) g news)
      (fun S o h' gens' => Turned A₀ base outer h₀ L m ((S, o) :: news) h' ∧ AllBare gens') where
  next := by
    rintro i l S o s E hi J F N hne
    have hfill : PySem.Challenge.rw_ij0072_01 = PySem.Challenge.rw_ij0072_01 → Mine.hd.heap_39 = Mine.hd.heap_39 → True := by
      k_fill
      intros; trivial
    clear hfill
    have l5 : @LT.lt Nat _ x S := by
      cases J with
      | start => exact hne _ (.head _)
      | on => exact hne _ (.head _)
    have hne' : ∀ oC k1 k2 k3 k4 k5, ∀ q ∈ ((x, islO dx k1 k2 k3 k4 k5) :: (dx, dictOf [] 0) :: (ag, genO g n1 n2 t1 t2) :: (cg, oC) :: news), q.1 < S := fun oC k1 k2 k3 k4 k5 q hq => by
      rcases List.mem_cons.mp hq with rfl | hq
      · exact l5
      rcases List.mem_cons.mp hq with rfl | hq
      · exact Nat.lt_trans l4 l5
      rcases List.mem_cons.mp hq with rfl | hq
      · exact Nat.lt_trans l3 (Nat.lt_trans l4 l5)
      rcases List.mem_cons.mp hq with rfl | hq
      · exact Nat.lt_trans l2 (Nat.lt_trans l3 (Nat.lt_trans l4 l5))
      · exact Nat.lt_trans (ktn_ltOf l1 q hq) (Nat.lt_trans l2 (Nat.lt_trans l3 (Nat.lt_trans l4 l5)))
    cases J with
    | @start _ gs oC tc tn tt tp hg st hb =>
      refine owit_next F X (f := 64) (inst_isl N (.tail _ (.head _)) (.tail _ (.tail _ (.head _)))) (by k_is) (by k_is) ?_
      refine inext_first B F X N T hk l1 l2 l3 l4 l5 hG hg st (by omega) hd hu hDd hUu hD hU (fun t tc' tn' h' tk' gens' gs' oc' F' N' hGo hg' st' => ?_)
      exact ⟨_, _, h', tk', gens', rfl, rfl, ⟨t, rfl⟩, .on (k := 0) (tc := tc') (tn := tn') (tt := tt) (tp := tp) (by omega) hg' st' (hGo.bare hb), F', N', hne' _ _ _ _ _ _⟩
    | @on k _ gs oC tc tn tt tp hk2 hg st hb =>
      refine owit_next F X (f := 64) (inst_isl N (.tail _ (.head _)) (.tail _ (.tail _ (.head _)))) (by k_is) (by k_is) ?_
      refine inext_next B F X N T hk l1 l2 l3 l4 l5 hG hg st (by omega) (by omega) (by omega) hd hu hDd hUu hD hU (fun t tc' tn' h' tk' gens' gs' oc' F' N' hGo hg' st' => ?_)
      have e : ((k + 2 : Nat) : Int) + 1 = ((k + 1 + 2 : Nat) : Int) := by omega
      rw [e] at N'
      exact ⟨_, _, h', tk', gens', rfl, rfl, ⟨t, rfl⟩, .on (k := k + 1) (tc := tc') (tn := tn') (tt := tt) (tp := tp) (by omega) hg' st' (hGo.bare hb), F', N', hne' _ _ _ _ _ _⟩
  done := by
    rintro l S o s E J F N hne
    have hfill : PySem.Challenge.rw_ij0072_01 = PySem.Challenge.rw_ij0072_01 → Mine.hd.heap_39 = Mine.hd.heap_39 → True := by
      k_fill
      intros; trivial
    clear hfill
    obtain ⟨j, hj⟩ : ∃ j, N₀ - 1 = j := ⟨_, rfl⟩
    rw [hj] at J
    have l5 : @LT.lt Nat _ x S := by
      cases J with
      | start => exact hne _ (.head _)
      | on => exact hne _ (.head _)
    cases J with
    | @start _ gs oC tc tn tt tp hg st hb =>
      refine owit_next F X (f := 64) (inst_isl N (.tail _ (.head _)) (.tail _ (.tail _ (.head _)))) (by k_is) (by k_is) ?_
      rcases Nat.eq_zero_or_pos N₀ with h0 | h0
      · subst h0
        refine istop_zero B F X N T hk l1 l2 l3 l4 l5 hG hg st hd hu hDd hUu hD hU Xb Tb hbs (fun e h₇ tk gens' hoe ht hGo => ?_)
        obtain ⟨oe, h1, h2⟩ := hoe
        unfold OwitStop
        refine wpAny_isInstance (T := "StopIteration") (b := true) ⟨oe, h1, h2⟩ isSubtype_stop ?_
        exact ⟨h₇, tk, gens', rfl, rfl, ht, hGo.bare hb⟩
      · have h1 : N₀ = 1 := by omega
        subst h1
        refine istop_one B F X N T hk l1 l2 l3 l4 l5 hG hg st hd hu hDd hUu hD hU Xb Tb hbs (fun e h₇ tk gens' hoe ht hGo => ?_)
        obtain ⟨oe, h1, h2⟩ := hoe
        unfold OwitStop
        refine wpAny_isInstance (T := "StopIteration") (b := true) ⟨oe, h1, h2⟩ isSubtype_stop ?_
        exact ⟨h₇, tk, gens', rfl, rfl, ht, hGo.bare hb⟩
    | @on k _ gs oC tc tn tt tp hk2 hg st hb =>
      have h1 : N₀ = k + 2 := by omega
      subst h1
      refine owit_next F X (f := 64) (inst_isl N (.tail _ (.head _)) (.tail _ (.tail _ (.head _)))) (by k_is) (by k_is) ?_
      refine istop_on B F X N T hk l1 l2 l3 l4 l5 hG hg st (by omega) (by omega) hd hu hDd hUu hD hU Xb Tb hbs (fun e h₇ tk gens' hoe ht hGo => ?_)
      obtain ⟨oe, h1, h2⟩ := hoe
      unfold OwitStop
      refine wpAny_isInstance (T := "StopIteration") (b := true) ⟨oe, h1, h2⟩ isSubtype_stop ?_
      exact ⟨h₇, tk, gens', rfl, rfl, ht, hGo.bare hb⟩
  iter := by
    rintro l S o s E J F N
    have hfill : PySem.Challenge.rw_ij0072_01 = PySem.Challenge.rw_ij0072_01 → Mine.hd.heap_39 = Mine.hd.heap_39 → True := by
      k_fill
      intros; trivial
    clear hfill
    generalize hj : 0 = j at J
    cases J with
    | on => omega
    | @start _ gs oC tc tn tt tp hg st hb =>
      have I := inst_isl N (.tail _ (.head _)) (.tail _ (.tail _ (.head _)))
      refine owit_iter F X (f := 57) I (by k_is) (by k_is) ?_
      refine iter_self_spec B F X N T hk hd (fun h' tk' F' N' => ?_)
      exact owit_it F' X (inst_isl (s := ⟨h', s.gens, s.drawn, tk', s.os⟩) N' (.tail _ (.head _)) (.tail _ (.tail _ (.head _)))) (g := .ref 64) (by k_is) ⟨h', tk', rfl, rfl, F', N'⟩
  type := by
    refine ⟨.ref 68, by rfl, by rfl, ?_⟩
    rintro l s E Q J F N hQ
    generalize hj : 0 = j at J
    cases J with
    | on => omega
    | @start _ gs oC tc tn tt tp hg st hb =>
      simp only [typeOf]
      exact wpAny_bind (wpAny_load (N _ (.head _)).1 (wpAny_pure hQ))
  hint := by
    rintro l s E Q J F N hQ
    have hfill : PySem.Challenge.rw_ij0072_01 = PySem.Challenge.rw_ij0072_01 → Mine.hd.heap_39 = Mine.hd.heap_39 → True := by
      k_fill
      intros; trivial
    clear hfill
    generalize hj : 0 = j at J
    cases J with
    | on => omega
    | @start _ gs oC tc tn tt tp hg st hb =>
      have I := inst_isl N (.head _) (.tail _ (.head _))
      unfold Builtin.List.listLengthHint
      have e1 : findIn (Mine.hd.heap_39 w.params) (.ref 68) "__len__" = some none := by k_is
      have e2 : findIn (Mine.hd.heap_39 w.params) (.ref 68) "__length_hint__" = some none := by k_is
      refine wpAny_bind (wpAny_bind (I.type.here ((looks_findIn (X.keeps F.keep) e1).here ?_)))
      show wpAny _ _ (specialOf (Value.ref x) (Str.ofString "__length_hint__") >>= _) _ _ _
      refine wpAny_bind (wpAny_bind (I.type.here ((looks_findIn (X.keeps F.keep) e2).here ?_)))
      exact wpAny_pure (hQ _)
  mem := by
    rintro l gens J
    generalize hj : 0 = j at J
    cases J with
    | on => omega
    | start => exact ⟨_, .head _⟩
end
end
-- LR1
theorem off_LR1 : True := by (w_top off; exact trivial)
section
local macro_rules | `(tactic| walk_at "never") => `(tactic| fail)
noncomputable def lrObj : { o : Obj // ∀ P : Params, List.lookup 136 (Mine.hd.heap_39 P) = some o } := ⟨_, fun P => by
  have hfill : PySem.Challenge.rw_ij0072_01 = PySem.Challenge.rw_ij0072_01 → Mine.hd.heap_39 = Mine.hd.heap_39 → True := by
    k_fill
    intros; trivial
  clear hfill
  show List.lookup 136 (Mine.hd.heap_39 P) = some _
  k_is⟩
structure LrParts where
  s1 : Stmt
  s2 : Stmt
  s3 : Stmt
  s4 : Stmt
  s5 : Stmt
  s6 : Stmt
  sc : Scope
noncomputable def lrP : { q : LrParts // (match lrObj.1.data with | .func fd => (match fd.body with | .stmts [s1, s2, s3, s4, s5, s6] => some (⟨s1, s2, s3, s4, s5, s6, fd.scope⟩ : LrParts) | _ => none) | _ => none) = some q } := ⟨_, rfl⟩
noncomputable abbrev lrFr (P : Value) (nm : Str) (t : Tok) (fb la hi to : Option Value) : Str → Option Value := fun y =>
  if y = Str.ofString "forebears" then fb else if y = Str.ofString "lasts" then la else if y = Str.ofString "hit" then hi else if y = Str.ofString "told" then to else if y = Str.ofString "name" then some (.str nm t) else if y = Str.ofString "prog" then some P else none
theorem lrFr_fore {P : Value} {nm : Str} {t : Tok} {fb la hi to : Option Value} {v : Value} : (fun y => if y = Str.ofString "forebears" then some v else lrFr P nm t fb la hi to y) = lrFr P nm t (some v) la hi to := by
  funext y
  by_cases h : y = Str.ofString "forebears"
  · rw [h]; rfl
  · simp only [lrFr, h, if_false]
theorem lrFr_lasts {P : Value} {nm : Str} {t : Tok} {fb la hi to : Option Value} {v : Value} : (fun y => if y = Str.ofString "lasts" then some v else lrFr P nm t fb la hi to y) = lrFr P nm t fb (some v) hi to := by
  funext y
  by_cases h : y = Str.ofString "lasts"
  · rw [h]; rfl
  · simp only [lrFr, h, if_false]
theorem lrFr_hit {P : Value} {nm : Str} {t : Tok} {fb la hi to : Option Value} {v : Value} : (fun y => if y = Str.ofString "hit" then some v else lrFr P nm t fb la hi to y) = lrFr P nm t fb la (some v) to := by
  funext y
  by_cases h : y = Str.ofString "hit"
  · rw [h]; rfl
  · simp only [lrFr, h, if_false]
theorem lrFr_told {P : Value} {nm : Str} {t : Tok} {fb la hi to : Option Value} {v : Value} : (fun y => if y = Str.ofString "told" then some v else lrFr P nm t fb la hi to y) = lrFr P nm t fb la hi (some v) := by
  funext y
  by_cases h : y = Str.ofString "told"
  · rw [h]; rfl
  · simp only [lrFr, h, if_false]
noncomputable abbrev lrEnv (L c : Addr) : Env := envX (Str.ofString "_law_right") lrP.1.sc L 136 (.ref 135) [(Str.ofString "col", c)]
section
variable {w : World} {p : Program} {loose : List Str} {mean : ExcName → Option Value} {mg mb : Str → Option Value}
  {dp un : Nat} {gd : Option (List Code)} {outer : List Env} {A₀ : Around} {base h₀ : Heap} {L c : Addr} {s : Shared} {Q : Flow → Shared → Prop} {E : Value → Shared → Prop}
  {news : List (Addr × Obj)} {P : Value} {nm : Str} {t : Tok} {N₀ : Nat} {fb la hi to : Option Value}
theorem with_LR1_1 : True := by
  (k_with "my LR1 0" => (show wpAny _ _ (call (.ref 110) [.str _ _]) _ _ _; refine ancestry_spec (G := base) (D := dp + 20) (U := un + 60) (by assumption) (by assumption) (by assumption) (by assumption) (by assumption) (by assumption) (by assumption) (by assumption) (by assumption) (by k_room) (by k_room) (by k_units) ?_; (all_goals (intro ag_ cg_ oc_ n1_ n2_ t1_ t2_ gs_ h_ tk_ F_ N_ l1_ l2_ st_; try dsimp only))))
  exact trivial
local macro_rules | `(tactic| walk_at "call ref") => `(tactic| k_extra "my LR1 0")
theorem lr_fore (B : Below A₀ base outer h₀) (F : Fr h₀ L s.heap (lrFr P nm t fb la hi to)) (X : (hd.heap_39 w.params).In h₀) (N : News h₀ L s.heap news) (T : Top p loose mean mg mb h₀)
  (hG : base.StaysIn h₀) (Xb : (hd.heap_39 w.params).In base) (Tb : Top p loose mean mg mb base) (hbs : base.objs.size ≤ h₀.objs.size) (hN : AncN nm N₀) (hN1 : N₀ ≤ 1000)
  (hd : dp + 40 < recursionLimit) (hu : un + 200 < cLine) (hbare : AllBare s.gens)
  (hret : ∀ S ag acc cc g n1 n2 t1 t2 h' tk' gens', Fr h₀ L h' (lrFr P nm t (some (.ref S)) la hi to) → News h₀ L h' ((S, listO acc cc) :: (ag, genO g n1 n2 t1 t2) :: news) → (∀ q ∈ news, q.1 < ag) → @LT.lt Nat _ ag S → ItemsOf (fun j v => ∃ t, v = .str (ancPath nm j) t) acc N₀ → AllBare gens' → Q .next ⟨h', gens', s.drawn, tk', s.os⟩) :
  wpAny (model PySem.Challenge.rw_ij0072_01.row.prog w) (ktrTop dp un gd (Str.ofString "_law_right") lrP.1.sc L 136 (.ref 135) [(Str.ofString "col", c)] outer) (exec lrP.1.s1 (lrEnv L c)) Q E s := by
  have hfill : PySem.Challenge.rw_ij0072_01 = PySem.Challenge.rw_ij0072_01 → Mine.hd.heap_39 = Mine.hd.heap_39 → True := by
    k_fill
    intros; trivial
  clear hfill
  dsimp only [lrP]
  k_steps
  rename AncGo _ _ _ _ _ _ _ _ _ _ => kS
  rename News h₀ L _ _ => kN
  rename Fr h₀ L _ _ => kF
  rename (∀ p ∈ news, _ < _) => kL
  rename (_ < _) => kL2
  refine list_iter_spec (gen_iter (G := base) (D := dp + 20) (U := un + 60) T hG rfl (by show dp ≤ dp + 20; omega) (by show un + 1 + 1 + 1 ≤ un + 60; omega) (by omega) kL kL2) (Nat.le_trans hN1 (by rw [sizeLine_eq]; omega)) (.on (Nat.zero_le _) (Array.getElem?_push_size ..) kS (bare_push hbare kS.bare)) kF kN (fun S acc' c' h' tk' gens' hF hlt hacc => ?_)
  obtain ⟨F5, N5, hb5⟩ := hF
  clear kF kN
  k_steps
  rename Fr h₀ L _ _ => kF
  rw [lrFr_fore] at kF
  exact hret _ _ _ _ _ _ _ _ _ _ _ _ kF (by assumption) (fun q hq => Nat.lt_trans (kL q hq) kL2) (hlt _ (.head _)) hacc hb5
end
end
-- LR2
theorem off_LR2 : True := by (w_top off; exact trivial)
section
section
variable {w : World} {p : Program} {loose : List Str} {mean : ExcName → Option Value} {mg mb : Str → Option Value}
  {dp un : Nat} {gd : Option (List Code)} {outer : List Env} {A₀ : Around} {base h₀ : Heap} {L c : Addr} {s : Shared} {Q : Flow → Shared → Prop} {E : Value → Shared → Prop}
  {news : List (Addr × Obj)} {P : Value} {nm : Str} {t : Tok} {N₀ : Nat} {la hi to : Option Value}
theorem lr_len {S : Addr} {acc : Array Value} {cc : Nat} (B : Below A₀ base outer h₀) (F : Fr h₀ L s.heap (lrFr P nm t (some (.ref S)) la hi to)) (X : (hd.heap_39 w.params).In h₀) (N : News h₀ L s.heap ((S, listO acc cc) :: news)) (T : Top p loose mean mg mb h₀)
  (hN1 : N₀ ≤ 1000) (hsz : nm.length ≤ 1000) (hacc : acc.size = N₀) (hcnt : ((Txt.split nm (Str.ofString "/")).filter (fun a => a != Str.ofString "")).length = N₀)
  (hd : dp + 40 < recursionLimit) (hu : un + 200 < cLine)
  (hret : ∀ h' tk', Fr h₀ L h' (lrFr P nm t (some (.ref S)) la hi to) → News h₀ L h' ((S, listO acc cc) :: news) → Q .next { s with heap := h', toks := tk' }) :
  wpAny (model PySem.Challenge.rw_ij0072_01.row.prog w) (ktrTop dp un gd (Str.ofString "_law_right") lrP.1.sc L 136 (.ref 135) [(Str.ofString "col", c)] outer) (exec lrP.1.s2 (lrEnv L c)) Q E s := by
  have hfill : PySem.Challenge.rw_ij0072_01 = PySem.Challenge.rw_ij0072_01 → Mine.hd.heap_39 = Mine.hd.heap_39 → True := by
    k_fill
    intros; trivial
  clear hfill
  dsimp only [lrP]
  k_steps
  rename CarriedAll _ _ => kC
  rename List.map _ _ = Txt.split nm _ => kM
  rename Heap.IsList _ _ _ => kI
  have e := kC.length_eq
  rw [List.length_map, kM, hcnt] at e
  have e2 : ∀ zs : List Value, zs.length = N₀ → (zs.toArray.size : Int) = (acc.size : Int) := fun zs h => by rw [List.size_toArray, h, hacc]
  refine call_len_list kI (by rw [List.size_toArray, e]; omega) ?_
  rw [e2 _ e]
  k_steps
  · exfalso
    omega
  · exact hret _ _ (by assumption) (news_tail (by assumption))
end
end
-- LsEq
theorem off_LsEq : True := by (w_top off; exact trivial)
section
section
variable {prog : Program} {w : World} {A : Around} {s : Shared} {E : Value → Shared → Prop}
theorem ne_lists {a b : Addr} {i1 i2 : Array Value} {e : Nat → Bool} {Q : Value → Shared → Prop} (hl : s.heap.IsList a i1) (hb : s.heap.IsList b i2) (hsz : i1.size = i2.size) (hu : A.units < cLine)
    (he : ∀ j (h1 : j < i1.size) (h2 : j < i2.size), PySem.SeqAt.EqAt A.in1 s i1[j] i2[j] (e j)) (h : Q (.bool (!(List.range i1.size).all e)) s) : wpAny (model prog w) A (compareOp .NotEq (.ref a) (.ref b)) Q E s :=
  PySem.SeqAt.RcNeAt.lists hl hb hsz hu he prog w E Q h
theorem ne_lists_same {a b : Addr} {i1 i2 : Array Value} {Q : Value → Shared → Prop} (hl : s.heap.IsList a i1) (hb : s.heap.IsList b i2) (hsz : i1.size = i2.size) (hu : A.units < cLine)
    (he : ∀ j (h1 : j < i1.size) (h2 : j < i2.size), PySem.SeqAt.EqAt A.in1 s i1[j] i2[j] true) (h : Q (.bool false) s) : wpAny (model prog w) A (compareOp .NotEq (.ref a) (.ref b)) Q E s :=
  ne_lists (e := fun _ => true) hl hb hsz hu he (by
    have : (!(List.range i1.size).all fun _ => true) = false := by simp
    rw [this]; exact h)
theorem eqAt_str {x y : Value} {u : Str} {t1 t2 : Tok} (h1 : x = .str u t1) (h2 : y = .str u t2) : PySem.SeqAt.EqAt A s x y true := by
  subst h1 h2
  have := PySem.SeqAt.EqAt.str_str (A := A) (s := s) u t1 u t2
  simpa using this
end
theorem slicePick_one (acc : Array Value) : slicePick acc (some 1) none none = (acc.toList.drop 1).toArray := by
  rcases Nat.eq_zero_or_pos acc.size with h | h
  · have e := kmk_pick_nat (lo := some 1) (hi := none) acc (a := 0) (b := 0) (by unfold sliceBounds; simp [h]; omega)
    rw [e]
    have : acc.toList = [] := by simpa using h
    simp [this]
  · have e := kmk_pick_nat (lo := some 1) (hi := none) acc (a := 1) (b := acc.size) (by unfold sliceBounds; simp; omega)
    rw [e]
    congr 1
    rw [List.take_of_length_le]
    simp
theorem slicePick_first (acc : Array Value) : slicePick acc none (some 1) none = (acc.toList.take 1).toArray := by
  rcases Nat.eq_zero_or_pos acc.size with h | h
  · have e := kmk_pick_nat (lo := none) (hi := some 1) acc (a := 0) (b := 0) (by unfold sliceBounds; simp [h]; omega)
    rw [e]
    have : acc.toList = [] := by simpa using h
    simp [this]
  · have e := kmk_pick_nat (lo := none) (hi := some 1) acc (a := 0) (b := 1) (by unfold sliceBounds; simp; omega)
    rw [e]
    simp
end
-- LR3
theorem off_LR3 : True := by (w_top off; exact trivial)
section
local macro_rules | `(tactic| walk_at "never") => `(tactic| fail)
section
variable {w : World} {p : Program} {loose : List Str} {mean : ExcName → Option Value} {mg mb : Str → Option Value}
  {dp un : Nat} {gd : Option (List Code)} {outer : List Env} {A₀ : Around} {base h₀ : Heap} {L c : Addr} {s : Shared} {Q : Flow → Shared → Prop} {E : Value → Shared → Prop}
  {news : List (Addr × Obj)} {P : Value} {nm : Str} {t : Tok} {N₀ : Nat} {la hi to : Option Value}
theorem with_LR3_1 : True := by
  (k_with "my LR3 0" => (show wpAny _ _ (call (.ref 82) [.str _ _]) _ _ _; refine parents_spec (G := base) (D := dp + 20) (U := un + 60) (by assumption) (by assumption) (by assumption) (by assumption) (by assumption) (by exact rfl) (by assumption) (by assumption) (by assumption) (by assumption) (by assumption) (by k_room) (by k_units) (by k_room) (by k_units) ?_; (all_goals (intro x_ dx_ ag_ cg_ oc_ n1_ n2_ t1_ t2_ gs_ tc_ tn_ tt_ tp_ h_ tk_ F_ N_ l1_ l2_ l3_ l4_ st_; try dsimp only))))
  exact trivial
local macro_rules | `(tactic| walk_at "call ref") => `(tactic| k_extra "my LR3 0")
theorem lr_par {S : Addr} {acc : Array Value} {cc : Nat} (B : Below A₀ base outer h₀) (F : Fr h₀ L s.heap (lrFr P nm t (some (.ref S)) la hi to)) (X : (hd.heap_39 w.params).In h₀) (N : News h₀ L s.heap ((S, listO acc cc) :: news)) (T : Top p loose mean mg mb h₀)
  (hG : base.StaysIn h₀) (Xb : (hd.heap_39 w.params).In base) (Tb : Top p loose mean mg mb base) (hbs : base.objs.size ≤ h₀.objs.size) (hN : AncN nm N₀) (hN1 : N₀ ≤ 1000)
  (hd : dp + 40 < recursionLimit) (hu : un + 200 < cLine) (hbare : AllBare s.gens) (hacc : ItemsOf (fun j v => ∃ t, v = .str (ancPath nm j) t) acc N₀)
  (hret : ∀ h' tk' gens', Turned A₀ base outer h₀ L (lrFr P nm t (some (.ref S)) la hi to) ((S, listO acc cc) :: news) h' → AllBare gens' → Q .next ⟨h', gens', s.drawn, tk', s.os⟩) :
  wpAny (model PySem.Challenge.rw_ij0072_01.row.prog w) (ktrTop dp un gd (Str.ofString "_law_right") lrP.1.sc L 136 (.ref 135) [(Str.ofString "col", c)] outer) (exec lrP.1.s3 (lrEnv L c)) Q E s := by
  have hfill : PySem.Challenge.rw_ij0072_01 = PySem.Challenge.rw_ij0072_01 → Mine.hd.heap_39 = Mine.hd.heap_39 → True := by
    k_fill
    intros; trivial
  clear hfill
  dsimp only [lrP]
  k_steps
  rename AncGo _ _ _ _ _ _ _ _ _ _ => kS
  rename News h₀ L _ _ => kN
  rename Fr h₀ L _ _ => kF
  rename (∀ p ∈ (S, listO acc cc) :: news, _ < _) => kL
  rename _ < _ => kL4
  rename _ < _ => kL3
  rename _ < _ => kL2
  refine list_iter_spec (isl_iter (D := dp + 20) (U := un + 60) (dp := dp) (un := un + 2) B X T rfl (allLt_of kL) ‹_› ‹_› ‹_› hG hN1 Xb Tb hbs (by omega) (by omega) (by omega) (by omega) (by omega) (by omega)) (by rw [sizeLine_eq]; omega) (.start (Array.getElem?_push_size ..) kS (bare_push hbare kS.bare)) kF kN (fun S2 acc2 c2 h' tk' gens' hF hlt hacc2 => ?_)
  obtain ⟨⟨g₂, T₂, F₂, N₂, B₂⟩, hb2⟩ := hF
  have X₂ := Xb.keeps B₂.stays
  have P₂ := Tb.keeps B₂.stays
  clear kF kN N F X T B
  k_steps
  have hlS := (News.get N₂ (.tail _ (.head _)))
  have hA : acc.size = N₀ := hacc.1
  have hA2 : acc2.size = N₀ - 1 := hacc2.1
  refine kmk_slice F₂ N₂ (its := acc) ⟨_, hlS, rfl, cc, rfl⟩ (.int 1 _) .none (fun D h3 F3 N3 l3 => ?_) ?hs ?ht (by rw [sizeLine_eq]; omega)
  case ht => intro _; rfl
  case hs => rfl
  rw [slicePick_one] at N3
  clear F₂ N₂
  refine ne_lists_same (i1 := acc2) (i2 := (acc.toList.drop 1).toArray) ⟨_, News.get N3 (.tail _ (.head _)), rfl, c2, rfl⟩ ⟨_, News.get N3 (.head _), rfl, 0, rfl⟩ ?e1 (by show un < cLine; omega) (fun j h1 h2 => ?e2) ?e3
  case e1 =>
    show acc2.size = (acc.toList.drop 1).toArray.size
    have : (acc.toList.drop 1).toArray.size = acc.size - 1 := by simp
    omega
  case e2 =>
    obtain ⟨u1, e1⟩ := hacc2.2 j _ (Array.getElem?_eq_getElem h1)
    have hj : j + 1 < acc.size := by omega
    have e3 : (acc.toList.drop 1).toArray[j] = acc[j + 1] := by
      rw [List.getElem_toArray, List.getElem_drop, Array.getElem_toList]
      congr 1
      omega
    obtain ⟨u2, e2⟩ := hacc.2 (j + 1) _ (Array.getElem?_eq_getElem hj)
    exact eqAt_str e1 (e3.trans e2)
  case e3 =>
    clear hlS hA hA2 hacc hacc2
    k_steps
    exact hret _ _ _ ⟨g₂, T₂, F3, fun q hq => N3 q (.tail _ (.tail _ hq)), B₂⟩ hb2
end
end
-- LR4
theorem off_LR4 : True := by (w_top off; exact trivial)
section
section
variable {w : World} {p : Program} {loose : List Str} {mean : ExcName → Option Value} {mg mb : Str → Option Value}
  {dp un : Nat} {gd : Option (List Code)} {outer : List Env} {A₀ : Around} {base h₀ : Heap} {L c : Addr} {s : Shared} {Q : Flow → Shared → Prop} {E : Value → Shared → Prop}
  {news : List (Addr × Obj)} {P : Value} {nm : Str} {t : Tok} {N₀ : Nat} {la hi to : Option Value}
noncomputable def l4P : { q : Expr × Str × Scope // (match lrP.1.s4 with | .Assign _ (.ListComp elt [⟨.Name x _, _, _, _⟩] sc _) _ => some (elt, x, sc) | _ => none) = some q } := ⟨_, rfl⟩
noncomputable def lstOf (x : Str) : Int := (x.length : Int) - ((((Txt.split x (Str.ofString "/"))[(-1 + ((Txt.split x (Str.ofString "/")).length : Int)).toNat]?).map (fun y => (y.length : Int))).getD 0)
theorem lstOf_eq {x y : Str} {l : List (Str × Tok)} (h1 : l.map (fun z => z.1) = Txt.split x (Str.ofString "/")) (h2 : (l.map (fun z => z.1))[(-1 + (l.length : Int)).toNat]? = some y) : lstOf x = (x.length : Int) - (y.length : Int) := by
  unfold lstOf
  rw [← h1, List.length_map, h2]
  rfl
noncomputable def LastsIn (hs : List (Addr × Obj)) (nm : Str) (ys : List Value) (n : Nat) : Prop := ys.length = n ∧ ∀ j v, ys[j]? = some v → ∃ (e : Addr) (t u : Tok) (k : Nat), v = .ref e ∧ (e, ({ cls := .type "list", data := .seq #[.int (lstOf (ancPath nm j)) t, .str (ancPath nm j) u] k } : Obj)) ∈ hs
theorem off1_mem {D : Addr} {l : List (Addr × Obj)} (h : LCg.Off1 D l) : ∀ p ∈ l, p.1 ≠ D := by
  induction l with
  | nil => intro p hp; cases hp
  | cons q r ih =>
    intro p hp
    obtain ⟨h1, h2⟩ : q.1 ≠ D ∧ LCg.Off1 D r := h
    rcases List.mem_cons.mp hp with e | hp
    · rw [e]; exact h1
    · exact ih h2 p hp
theorem lr_lasts {S : Addr} {acc : Array Value} {cc : Nat} (B : Below A₀ base outer h₀) (F : Fr h₀ L s.heap (lrFr P nm t (some (.ref S)) la hi to)) (X : (hd.heap_39 w.params).In h₀) (N : News h₀ L s.heap ((S, listO acc cc) :: news)) (T : Top p loose mean mg mb h₀)
  (hN1 : N₀ ≤ 1000) (hsz : ∀ j, (ancPath nm j).length ≤ 1000) (hacc : ItemsOf (fun j v => ∃ t, v = .str (ancPath nm j) t) acc N₀)
  (hd : dp + 40 < recursionLimit) (hu : un + 200 < cLine)
  (hret : ∀ D ys hs h' tk', Fr h₀ L h' (lrFr P nm t (some (.ref S)) (some (.ref D)) hi to) → News h₀ L h' ((D, LCg.lst ys) :: hs) → (∀ q ∈ (S, listO acc cc) :: news, q ∈ hs) → (∀ q ∈ hs, q.1 ≠ D) → LastsIn hs nm ys N₀ → Q .next { s with heap := h', toks := tk' }) :
  wpAny (model PySem.Challenge.rw_ij0072_01.row.prog w) (ktrTop dp un gd (Str.ofString "_law_right") lrP.1.sc L 136 (.ref 135) [(Str.ofString "col", c)] outer) (exec lrP.1.s4 (lrEnv L c)) Q E s := by
  have hfill : PySem.Challenge.rw_ij0072_01 = PySem.Challenge.rw_ij0072_01 → Mine.hd.heap_39 = Mine.hd.heap_39 → True := by
    k_fill
    intros; trivial
  clear hfill
  dsimp only [lrP]
  k_dflt (refine LCg.Assign_ListComp_U (F₀ := F) (by rfl) (by with_unfolding_all rfl) (by with_unfolding_all rfl) (by decide) (by rfl) (by decide) (by rfl) (by rfl) (by rfl) ?_)
  refine nameX_L F rfl ?_
  refine LCg.CompSrc.ledger rfl F N (.head _) (by rw [sizeLine_eq, hacc.1]; omega) (fun g => ?_)
  rw [hacc.1]
  have key : ∀ (k i : Nat) (ys : List Value) (hs : List (Addr × Obj)), i + k = N₀ → (∀ q ∈ (S, listO acc cc) :: news, q ∈ hs) → LastsIn hs nm ys i →
    LCg.CompRest PySem.Challenge.rw_ij0072_01.row.prog w (ktrTop dp un gd (Str.ofString "_law_right") lrP.1.sc L 136 (.ref 135) [(Str.ofString "col", c)] outer) h₀ L (lrFr P nm t (some (.ref S)) la hi to) (lrEnv L c) l4P.1.1 l4P.1.2.1 l4P.1.2.2 [] { s with heap := g } (LCg.SrcAt h₀ S acc) (fun i v => acc[i]? = some v) (LCg.FinA h₀ L (lrFr P nm t (some (.ref S)) la hi to) { s with heap := g } (Str.ofString "lasts") Q) k i ys hs := by
    intro k
    induction k with
    | zero =>
      intro i ys hs hik hsub hL
      refine LCg.CompRest.zero (fun D h tk F2 N2 off => ?_)
      rw [lrFr_lasts] at F2
      have hi : i = N₀ := by omega
      subst hi
      exact hret D ys hs h tk F2 N2 hsub (off1_mem off) hL
    | succ k ih =>
      intro i ys hs hik hsub hL
      refine LCg.CompRest.succ (fun v I oI C oC D m₂ h tk E' hv hC hm2 F2 N2 off hne => ?_)
      obtain ⟨u, rfl⟩ := hacc.2 i v hv
      have hszi := hsz i
      dsimp only [l4P]
      k_steps
      rename List.map _ _ = Txt.split _ _ => kM
      rename ∀ (a : Str), a ∈ _ → _ ≤ _ => kLe
      rename _ = some _ => kY
      have hy := Nat.le_trans (kLe _ (List.mem_of_getElem? kY)) hszi
      have hst := lstOf_eq kM kY
      clear kLe
      k_steps
      rename_i lx hx kF kN kA
      obtain ⟨_, a1, a2, a3, a4⟩ := kA
      rw [← hst] at kN
      obtain ⟨tx, sp, kN2⟩ : ∃ tx sp, News h₀ L hx ((lx, W.listOf #[.int (lstOf (ancPath nm i)) tx, .str (ancPath nm i) u] 0) :: sp :: (I, oI) :: (C, oC) :: (D, LCg.lst ys) :: hs) := ⟨_, _, kN⟩
      refine LCg.CompEnd.intro kF kN2 ((lx, W.listOf #[.int (lstOf (ancPath nm i)) tx, .str (ancPath nm i) u] 0) :: hs) (fun q hq => ?_) (LCg.Off3.of (fun q hq => ?_)) (.inr ⟨listO acc cc, .tail _ (hsub _ (.head _)), rfl, cc, rfl⟩) (ih (i + 1) (ys ++ [_]) _ (by omega) (fun q hq => .tail _ (hsub q hq)) ⟨by rw [List.length_append, hL.1]; rfl, fun j v hjv => ?_⟩)
      · rcases List.mem_cons.mp hq with rfl | hq
        · exact .tail _ (.tail _ (.head _))
        rcases List.mem_cons.mp hq with rfl | hq
        · exact .tail _ (.tail _ (.tail _ (.head _)))
        rcases List.mem_cons.mp hq with rfl | hq
        · exact .tail _ (.tail _ (.tail _ (.tail _ (.head _))))
        rcases List.mem_cons.mp hq with rfl | hq
        · exact .head _
        · exact .tail _ (.tail _ (.tail _ (.tail _ (.tail _ hq))))
      · rcases List.mem_cons.mp hq with rfl | hq
        · exact ⟨Nat.ne_of_gt a1, Nat.ne_of_gt a2, Nat.ne_of_gt a3⟩
        · exact off.mem q hq
      · rw [List.getElem?_append] at hjv
        split at hjv
        · obtain ⟨e, t1, u1, k1, h1, h2⟩ := hL.2 j v hjv
          exact ⟨e, t1, u1, k1, h1, .tail _ h2⟩
        · rename_i hlt
          rw [hL.1] at hjv hlt
          have hj : j - i = 0 := by
            rcases Nat.eq_zero_or_pos (j - i) with h0 | h0
            · exact h0
            · rw [List.getElem?_eq_none (show ([Value.ref lx] : List Value).length ≤ j - i from h0)] at hjv; cases hjv
          have hji : j = i := by omega
          subst hji
          rw [hj] at hjv
          cases hjv
          exact ⟨_, _, _, _, rfl, .head _⟩
  exact key N₀ 0 [] _ (by omega) (fun q hq => hq) ⟨rfl, fun j v h => by simp at h⟩
end
end
-- LR5
theorem off_LR5 : True := by (w_top off; exact trivial)
section
local macro_rules | `(tactic| walk_at "never") => `(tactic| fail)
structure L5Parts where
  b1 : Stmt
  b2 : Stmt
  b3 : Stmt
  rng : Expr
  vp : Pos
  fp : Pos
noncomputable def l5P : { q : L5Parts // (match lrP.1.s5 with | .For (.Name _ vp) rng [b1, b2, b3] [] fp => some (⟨b1, b2, b3, rng, vp, fp⟩ : L5Parts) | _ => none) = some q } := ⟨_, rfl⟩
section
variable {w : World} {p : Program} {loose : List Str} {mean : ExcName → Option Value} {mg mb : Str → Option Value}
  {dp un : Nat} {gd : Option (List Code)} {outer : List Env} {A₀ : Around} {base h₀ : Heap} {L c : Addr} {s : Shared} {Q : Flow → Shared → Prop} {E : Value → Shared → Prop}
  {hs : List (Addr × Obj)} {P f : Addr} {ps : Array Value} {nm : Str} {t tc : Tok} {N₀ col : Nat} {fb la hi to : Option Value} {oc : Obj}
theorem lr_hit (B : Below A₀ base outer h₀) (F : Fr h₀ L s.heap (lrFr (.ref P) nm t fb la hi to)) (X : (hd.heap_39 w.params).In h₀) (N : News h₀ L s.heap ((119, tabObj ps) :: hs)) (T : Top p loose mean mg mb h₀)
  (hcell : (c, oc) ∈ hs) (hcd : oc.data = .cell (some (.int (col : Int) tc))) (C1 : CodeHd base 123 119) (hne : ∀ q ∈ hs, q.1 ≠ 119) (hps : Tab119 ps hs) (hP : ProgIn hs P f) (hS : SearchIn hs f) (hsz : nm.length ≤ 1000)
  (hd : dp + 40 < recursionLimit) (hu : un + 200 < cLine)
  (hret : ∀ vf fd ps' hs' h' tk', SRes (sg nm) col fd → Fr h₀ L h' (lrFr (.ref P) nm t fb la (some vf) to) → News h₀ L h' ((119, tabObj ps') :: hs') → (∀ q ∈ hs, q ∈ hs') → (∀ q ∈ hs', q.1 ≠ 119) → Tab119 ps' hs' → FoundIn hs' vf fd → Q .next { s with heap := h', toks := tk' }) :
  wpAny (model PySem.Challenge.rw_ij0072_01.row.prog w) (ktrTop dp un gd (Str.ofString "_law_right") lrP.1.sc L 136 (.ref 135) [(Str.ofString "col", c)] outer) (exec l5P.1.b1 (lrEnv L c)) Q E s := by
  have hfill : PySem.Challenge.rw_ij0072_01 = PySem.Challenge.rw_ij0072_01 → Mine.hd.heap_39 = Mine.hd.heap_39 → True := by
    k_fill
    intros; trivial
  clear hfill
  dsimp only [l5P]
  iterate 9 walk1
  refine nameX_C (c := c) (o := oc) (v := .int (col : Int) tc) N ?h1 (List.Mem.tail _ hcell) hcd ?_ ?h2 ?h3
  case h1 => rfl
  case h2 => rfl
  case h3 => rfl
  iterate 2 walk1
  refine search_reverse_spec B F X N T rfl C1 hne hps hP hS hsz (by omega) (by omega) (fun vf fd ps' hs' h' tk' sr F' N' sub ne' tab fo => ?_)
  refine storeX_L F' N' (fun h2 F2 N2 => ?_) rfl rfl
  rw [lrFr_hit] at F2
  exact hret vf fd ps' hs' h2 _ sr F2 N2 sub ne' tab fo
end
end
-- LR6
theorem off_LR6 : True := by (w_top off; exact trivial)
section
local macro_rules | `(tactic| walk_at "never") => `(tactic| fail)
local macro_rules | `(tactic| walk_at "never") => `(tactic| fail)
section
variable {w : World} {p : Program} {loose : List Str} {mean : ExcName → Option Value} {mg mb : Str → Option Value}
  {dp un : Nat} {gd : Option (List Code)} {outer : List Env} {A₀ : Around} {base h₀ : Heap} {L c : Addr} {s : Shared} {Q : Flow → Shared → Prop} {E : Value → Shared → Prop}
  {hs : List (Addr × Obj)} {P r : Addr} {ps : Array Value} {nm : Str} {t : Tok} {i j : Nat} {fb la to : Option Value}
theorem with_LR6_1 : True := by
  (k_with "my LR6 0" => (k_here; k_dflt (first
  | (refine' callWith_F0 ?k1 ?_; (case k1 => first | exact fnAt_span (by k_asm) (by assumption) (fun q hq => .tail _ hq) | exact fnAt_span (by k_asm) (by assumption) (fun q hq => .tail _ (.tail _ hq))); try dsimp only [List.nil_append, List.cons_append]))))
  exact trivial
local macro_rules | `(tactic| walk_at "callWith ref") => `(tactic| k_extra "my LR6 0")
theorem with_LR6_2 : True := by
  (k_with "my LR6 1" => (k_dflt (first | exact fnAt_span (by k_asm) (by assumption) (fun q hq => .tail _ hq) | exact fnAt_span (by k_asm) (by assumption) (fun q hq => .tail _ (.tail _ hq)))))
  exact trivial
local macro_rules | `(tactic| walk_at "FnAt") => `(tactic| k_extra "my LR6 1")
theorem with_LR6_3 : True := by
  (k_with "my LR6 2" => (k_here; k_dflt (first
  | (refine' hit_getMethod ?N ?hP ?hs ?_; (case N => k_asm); (case hP => assumption); (case hs => first | exact fun q hq => .tail _ hq | exact fun q hq => .tail _ (.tail _ hq)); intro f' hS'))))
  exact trivial
local macro_rules | `(tactic| walk_at "getMethod ref") => `(tactic| k_extra "my LR6 2")
theorem with_LR6_4 : True := by
  (k_with "my LR6 3" => (k_here; (with_reducible show wpAny _ _ (call (Value.ref _) []) _ _ _); k_dflt (refine' span_spec ?B ?F ?X ?N ?T ?hk ?hS ?hsub ?C1 ?hd ?hu ?_; (case B => k_asm); (case F => k_asm); (case X => k_asm); (case N => k_asm); (case T => k_asm); (case hk => exact rfl); (case hS => assumption); (case hsub => first | exact fun q hq => .tail _ hq | exact fun q hq => .tail _ (.tail _ hq)); (case C1 => k_asm); (case hd => ktr_room); (case hu => ktr_units); intro t' ti' tj' h' tk' F' N'; (try dsimp only); (try k_fold))))
  exact trivial
local macro_rules | `(tactic| walk_at "call ref") => `(tactic| k_extra "my LR6 3")
theorem lr_told_none (B : Below A₀ base outer h₀) (F : Fr h₀ L s.heap (lrFr (.ref P) nm t fb la (some .none) to)) (X : (hd.heap_39 w.params).In h₀) (N : News h₀ L s.heap ((119, tabObj ps) :: hs)) (T : Top p loose mean mg mb h₀)
  (hsz : nm.length ≤ 1000) (hd : dp + 40 < recursionLimit) (hu : un + 200 < cLine)
  (hret : ∀ (T1 : Addr) h' tk', Fr h₀ L h' (lrFr (.ref P) nm t fb la (some .none) (some (.ref T1))) → News h₀ L h' ((119, tabObj ps) :: (T1, W.listOf #[] 0) :: hs) → T1 ≠ 119 → Q .next { s with heap := h', toks := tk' }) :
  wpAny (model PySem.Challenge.rw_ij0072_01.row.prog w) (ktrTop dp un gd (Str.ofString "_law_right") lrP.1.sc L 136 (.ref 135) [(Str.ofString "col", c)] outer) (exec l5P.1.b2 (lrEnv L c)) Q E s := by
  have hfill : PySem.Challenge.rw_ij0072_01 = PySem.Challenge.rw_ij0072_01 → Mine.hd.heap_39 = Mine.hd.heap_39 → True := by
    k_fill
    intros; trivial
  clear hfill
  dsimp only [l5P]
  k_steps
  rename_i lx hx kA hy kF kN
  rw [lrFr_told] at kF
  refine hret lx _ _ kF (fun q hq => ?_) (Nat.ne_of_gt kA.1)
  rcases List.mem_cons.mp hq with rfl | hq
  · exact kN _ (.tail _ (.head _))
  rcases List.mem_cons.mp hq with rfl | hq
  · exact kN _ (.head _)
  · exact kN _ (.tail _ (.tail _ hq))
theorem lr_told_some (B : Below A₀ base outer h₀) (F : Fr h₀ L s.heap (lrFr (.ref P) nm t fb la (some (.ref r)) to)) (X : (hd.heap_39 w.params).In h₀) (N : News h₀ L s.heap ((119, tabObj ps) :: hs)) (T : Top p loose mean mg mb h₀)
  (hH : HitIn hs r (i : Nat) (j : Nat)) (C1 : CodeHd base 123 119) (hsz : nm.length ≤ 1000) (hd : dp + 40 < recursionLimit) (hu : un + 200 < cLine)
  (hret : ∀ (T1 T2 : Addr) t1 t2 h' tk', Fr h₀ L h' (lrFr (.ref P) nm t fb la (some (.ref r)) (some (.ref T1))) → News h₀ L h' ((119, tabObj ps) :: (T1, W.listOf #[.ref T2] 0) :: (T2, W.listOf #[.int (i : Nat) t1, .str (Txt.slice nm none (some (j : Nat))) t2] 0) :: hs) → T1 ≠ 119 → T2 ≠ 119 → Q .next { s with heap := h', toks := tk' }) :
  wpAny (model PySem.Challenge.rw_ij0072_01.row.prog w) (ktrTop dp un gd (Str.ofString "_law_right") lrP.1.sc L 136 (.ref 135) [(Str.ofString "col", c)] outer) (exec l5P.1.b2 (lrEnv L c)) Q E s := by
  have hfill : PySem.Challenge.rw_ij0072_01 = PySem.Challenge.rw_ij0072_01 → Mine.hd.heap_39 = Mine.hd.heap_39 → True := by
    k_fill
    intros; trivial
  clear hfill
  dsimp only [l5P]
  k_steps
  rename_i l2 h2 kA2 l1 h1 kA1 h0 kF kN
  rw [lrFr_told] at kF
  obtain ⟨_, _, b1, _⟩ := kA2
  obtain ⟨_, _, _, b2, _⟩ := kA1
  obtain ⟨u1, u2, kN2⟩ : ∃ u1 u2, News h₀ L h0 ((l1, W.listOf #[Value.ref l2] 0) :: (l2, W.listOf #[Value.int (i : Nat) u1, Value.str (Txt.slice nm none (some (j : Nat))) u2] 0) :: _ :: _ :: (119, tabObj ps) :: hs) := ⟨_, _, kN⟩
  refine hret l1 l2 u1 u2 _ _ kF (fun q hq => ?_) (Nat.ne_of_gt b2) (Nat.ne_of_gt b1)
  rcases List.mem_cons.mp hq with rfl | hq
  · exact kN2 _ (.tail _ (.tail _ (.tail _ (.tail _ (.head _)))))
  rcases List.mem_cons.mp hq with rfl | hq
  · exact kN2 _ (.head _)
  rcases List.mem_cons.mp hq with rfl | hq
  · exact kN2 _ (.tail _ (.head _))
  · exact kN2 _ (.tail _ (.tail _ (.tail _ (.tail _ (.tail _ hq)))))
end
end
-- LR7
theorem off_LR7 : True := by (w_top off; exact trivial)
section
structure L7Parts where
  ct : Expr
  elt : Expr
  x : Str
  px : Pos
  it : Expr
  sc : Scope
  ps : Pos
noncomputable def l7P : { q : L7Parts // (match l5P.1.b3 with | .If (.Compare _ _ [.Subscript (.ListComp elt [⟨.Name x px, it, [ct], 0⟩] sc ps) _ _] _) _ _ _ => some (⟨ct, elt, x, px, it, sc, ps⟩ : L7Parts) | _ => none) = some q } := ⟨_, rfl⟩
noncomputable def fltP (nm : Str) (col : Nat) (ys : List Value) (n : Nat) : List Value := ((List.range n).filter (fun j => decide ((ancPath nm j).length ≤ col))).filterMap (fun j => ys[j]?)
theorem fltP_succ {nm : Str} {col : Nat} {ys : List Value} {i : Nat} : fltP nm col ys (i + 1) = fltP nm col ys i ++ (if (ancPath nm i).length ≤ col then (ys[i]?).toList else []) := by
  unfold fltP
  rw [List.range_succ, List.filter_append, List.filterMap_append]
  congr 1
  by_cases h : (ancPath nm i).length ≤ col
  · rw [if_pos h, List.filter_cons_of_pos (by simpa using h)]
    cases hy : ys[i]? <;> simp [hy]
  · rw [if_neg h, List.filter_cons_of_neg (by simpa using h)]
    rfl
section
variable {w : World} {p : Program} {loose : List Str} {mean : ExcName → Option Value} {mg mb : Str → Option Value}
  {dp un : Nat} {gd : Option (List Code)} {outer : List Env} {A₀ : Around} {base h₀ : Heap} {L c : Addr} {s : Shared} {Q : Value → Shared → Prop} {E : Value → Shared → Prop}
  {hs : List (Addr × Obj)} {P : Value} {x0 : Addr × Obj} {nm : Str} {t tc : Tok} {N₀ col : Nat} {fb hi to : Option Value} {oc : Obj}
theorem lr_flt {D : Addr} {ys : List Value} (B : Below A₀ base outer h₀) (F : Fr h₀ L s.heap (lrFr P nm t fb (some (.ref D)) hi to)) (X : (hd.heap_39 w.params).In h₀) (N : News h₀ L s.heap (x0 :: hs)) (T : Top p loose mean mg mb h₀)
  (hcell : (c, oc) ∈ hs) (hcd : oc.data = .cell (some (.int (col : Int) tc))) (hD : (D, LCg.lst ys) ∈ hs) (hL : LastsIn hs nm ys N₀) (hN1 : N₀ ≤ 1000) (hsz : ∀ j, (ancPath nm j).length ≤ 1000) (hcol : col ≤ 2000)
  (hd : dp + 40 < recursionLimit) (hu : un + 200 < cLine)
  (hret : ∀ Z h' tk', Fr h₀ L h' (lrFr P nm t fb (some (.ref D)) hi to) → News h₀ L h' ((Z, LCg.lst (fltP nm col ys N₀)) :: x0 :: hs) → Q (.ref Z) { s with heap := h', toks := tk' }) :
  wpAny (model PySem.Challenge.rw_ij0072_01.row.prog w) (ktrTop dp un gd (Str.ofString "_law_right") lrP.1.sc L 136 (.ref 135) [(Str.ofString "col", c)] outer) (eval (.ListComp l7P.1.elt [⟨.Name l7P.1.x l7P.1.px, l7P.1.it, [l7P.1.ct], 0⟩] l7P.1.sc l7P.1.ps) (lrEnv L c)) Q E s := by
  have hfill : PySem.Challenge.rw_ij0072_01 = PySem.Challenge.rw_ij0072_01 → Mine.hd.heap_39 = Mine.hd.heap_39 → True := by
    k_fill
    intros; trivial
  clear hfill
  k_dflt (refine LCt.ListComp_T (cl := [(Str.ofString "col", c)]) (F₀ := F) (by with_unfolding_all rfl) (by decide) (by rfl) (by decide) (by rfl) ?_)
  refine nameX_L F rfl ?_
  refine LCt.CompSrcT.ledger rfl F N (.tail _ hD) (by rw [sizeLine_eq, List.size_toArray, hL.1]; omega) (fun g => ?_)
  rw [List.size_toArray, hL.1]
  have key : ∀ (k i : Nat) (zs : List Value), i + k = N₀ → zs = fltP nm col ys i →
    LCt.CompRestT PySem.Challenge.rw_ij0072_01.row.prog w (ktrTop dp un gd (Str.ofString "_law_right") lrP.1.sc L 136 (.ref 135) [(Str.ofString "col", c)] outer) h₀ L (lrFr P nm t fb (some (.ref D)) hi to) (lrEnv L c) l7P.1.ct l7P.1.elt l7P.1.x l7P.1.sc [(Str.ofString "col", c)] { s with heap := g } (LCg.SrcAt h₀ D ys.toArray) (fun i v => ys.toArray[i]? = some v) (LCg.FinE h₀ L (lrFr P nm t fb (some (.ref D)) hi to) { s with heap := g } Q) k i zs (x0 :: hs) := by
    intro k
    induction k with
    | zero =>
      intro i zs hik hz
      refine LCt.CompRestT.zero (fun Z h tk F2 N2 off => ?_)
      have hi : i = N₀ := by omega
      subst hi
      rw [hz] at N2
      exact hret Z h tk F2 N2
    | succ k ih =>
      intro i zs hik hz
      refine LCt.CompRestT.succ (fun v I oI C oC D2 m₂ h tk E' hv hC hm2 F2 N2 off hne => ?_)
      obtain ⟨e, t1, u1, k1, rfl, hmem⟩ := hL.2 i v (by simpa using hv)
      have hszi := hsz i
      dsimp only [l7P]
      iterate 8 walk1
      refine item_list (l := e) (items := #[.int (lstOf (ancPath nm i)) t1, .str (ancPath nm i) u1]) ⟨_, News.get N2 (.tail _ (.tail _ (.tail _ (.tail _ hmem)))), rfl, k1, rfl⟩ (by decide) (by decide) (x := .str (ancPath nm i) u1) rfl ?_ (by with_unfolding_all rfl) (by intro _; with_unfolding_all rfl)
      iterate 2 walk1
      refine lcf_cell (c := c) (o := oc) (v := .int (col : Int) tc) N2 ?h1 (.tail _ (.tail _ (.tail _ (.tail _ hcell)))) hcd ?_ ?h2 ?h3
      case h1 => rfl
      case h2 => rfl
      case h3 => rfl
      iterate 2 walk1
      have hyi : ys[i]? = some (.ref e) := by simpa using hv
      have hsrc : LCg.SrcAt h₀ D ys.toArray (x0 :: hs) := .inr ⟨LCg.lst ys, .tail _ hD, rfl, _, rfl⟩
      by_cases hc : (ancPath nm i).length ≤ col
      · rw [if_pos (by simpa using hc)]
        refine LCgL.ld_own N2 (.tail _ (.head _)) hC hm2 ?_ (by rfl) (by rfl)
        refine LCg.CompEnd.intro F2 N2 (x0 :: hs) (fun q hq => hq) off hsrc (ih (i + 1) _ (by omega) ?_)
        rw [fltP_succ, hz, hyi, if_pos hc]
        rfl
      · rw [if_neg (by simpa using hc)]
        refine LCg.CompEnd.intro F2 N2 (x0 :: hs) (fun q hq => hq) off hsrc (ih (i + 1) _ (by omega) ?_)
        rw [fltP_succ, hz, if_neg hc, List.append_nil]
  exact key N₀ 0 [] (by omega) (by simp [fltP])
end
end
-- LR8
theorem off_LR8 : True := by (w_top off; exact trivial)
section
local macro_rules | `(tactic| walk_at "never") => `(tactic| fail)
section
variable {w : World} {p : Program} {loose : List Str} {mean : ExcName → Option Value} {mg mb : Str → Option Value}
  {dp un : Nat} {gd : Option (List Code)} {outer : List Env} {A₀ : Around} {base h₀ : Heap} {L c : Addr} {s : Shared} {Q : Flow → Shared → Prop} {E : Value → Shared → Prop}
  {hs : List (Addr × Obj)} {P : Value} {x0 : Addr × Obj} {nm : Str} {t tc : Tok} {N₀ col : Nat} {fb hi : Option Value} {oc : Obj}
theorem lr_cmp {D T1 : Addr} {ys : List Value} {i1 : Array Value} (B : Below A₀ base outer h₀) (F : Fr h₀ L s.heap (lrFr P nm t fb (some (.ref D)) hi (some (.ref T1)))) (X : (hd.heap_39 w.params).In h₀) (N : News h₀ L s.heap (x0 :: hs)) (T : Top p loose mean mg mb h₀)
  (hcell : (c, oc) ∈ hs) (hcd : oc.data = .cell (some (.int (col : Int) tc))) (hD : (D, LCg.lst ys) ∈ hs) (hL : LastsIn hs nm ys N₀) (hN1 : N₀ ≤ 1000) (hsz : ∀ j, (ancPath nm j).length ≤ 1000) (hcol : col ≤ 2000)
  (hT1 : (T1, W.listOf i1 0) ∈ hs) (hsize : i1.size = ((fltP nm col ys N₀).take 1).length)
  (hel : ∀ (A : Around) (s' : Shared), A.units ≤ un + 10 → News h₀ L s'.heap hs → ∀ j (h1 : j < i1.size) (h2 : j < ((fltP nm col ys N₀).take 1).toArray.size), PySem.SeqAt.EqAt A s' i1[j] ((fltP nm col ys N₀).take 1).toArray[j] true)
  (hd : dp + 40 < recursionLimit) (hu : un + 200 < cLine)
  (hret : ∀ h' tk', Fr h₀ L h' (lrFr P nm t fb (some (.ref D)) hi (some (.ref T1))) → News h₀ L h' (x0 :: hs) → Q .next { s with heap := h', toks := tk' }) :
  wpAny (model PySem.Challenge.rw_ij0072_01.row.prog w) (ktrTop dp un gd (Str.ofString "_law_right") lrP.1.sc L 136 (.ref 135) [(Str.ofString "col", c)] outer) (exec l5P.1.b3 (lrEnv L c)) Q E s := by
  have hfill : PySem.Challenge.rw_ij0072_01 = PySem.Challenge.rw_ij0072_01 → Mine.hd.heap_39 = Mine.hd.heap_39 → True := by
    k_fill
    intros; trivial
  clear hfill
  dsimp only [l5P]
  iterate 4 walk1
  refine lr_flt B F X N T hcell hcd hD hL hN1 hsz hcol hd hu (fun Z h2 tk2 F2 N2 => ?_)
  iterate 4 walk1
  walk1
  refine kba_turn (value' := PySem.Expr.Name (PySem.Str.ofString "_") ⟨0, 0, 0, 0⟩) (fun _ => rfl) ?_
  refine kmk_slice F2 N2 (its := (fltP nm col ys N₀).toArray) ⟨_, News.get N2 (.head _), rfl, _, rfl⟩ .none (.int 1 _) (fun D3 h3 F3 N3 l3 => ?_) (by rfl) (by intro _; rfl) ?hz
  case hz =>
    rw [sizeLine_eq, List.size_toArray]
    have hle : (fltP nm col ys N₀).length ≤ N₀ := by
      unfold fltP
      refine Nat.le_trans (List.length_filterMap_le _ _) (Nat.le_trans (List.length_filter_le _ _) ?_)
      rw [List.length_range]
      exact Nat.le_refl _
    omega
  rw [slicePick_first] at N3
  refine ne_lists_same (i1 := i1) (i2 := ((fltP nm col ys N₀).take 1).toArray) ⟨_, News.get N3 (.tail _ (.tail _ (.tail _ hT1))), rfl, 0, rfl⟩ ⟨_, News.get N3 (.head _), rfl, 0, rfl⟩ (by rw [List.size_toArray]; exact hsize) (by show un < cLine; omega) (fun j h1 h2 => hel _ _ (by show un + 1 ≤ un + 10; omega) (fun q hq => N3 q (.tail _ (.tail _ (.tail _ hq)))) j h1 h2) ?_
  clear hel hcell hcd hD hL hT1 hsize
  k_steps
  exact hret _ _ F3 (fun q hq => N3 q (.tail _ (.tail _ hq)))
end
end
-- LR9
theorem off_LR9 : True := by (w_top off; exact trivial)
section
noncomputable def ToldOk (nm : Str) (N₀ col : Nat) : Option (Nat × Nat) → Prop
  | none => ∀ j, j < N₀ → ¬ (ancPath nm j).length ≤ col
  | some (i, j) => ∃ q, q < N₀ ∧ (ancPath nm q).length ≤ col ∧ (∀ q', q' < q → ¬ (ancPath nm q').length ≤ col) ∧ lstOf (ancPath nm q) = (i : Int) ∧ ancPath nm q = Txt.slice nm none (some (j : Int))
theorem flt_none {nm : Str} {N₀ col : Nat} {ys : List Value} (h : ∀ j, j < N₀ → ¬ (ancPath nm j).length ≤ col) : fltP nm col ys N₀ = [] := by
  unfold fltP
  rw [List.filter_eq_nil_iff.mpr (fun j hj => by simpa using h j (List.mem_range.mp hj))]
  rfl
theorem flt_some {nm : Str} {N₀ col q : Nat} {ys : List Value} {v : Value} (hq : q < N₀) (h1 : (ancPath nm q).length ≤ col) (h2 : ∀ q', q' < q → ¬ (ancPath nm q').length ≤ col) (hv : ys[q]? = some v) : (fltP nm col ys N₀).take 1 = [v] := by
  have key : ∀ n, q < n → ∃ r, fltP nm col ys n = v :: r := by
    intro n
    induction n with
    | zero => intro h; omega
    | succ n ih =>
      intro h
      rw [fltP_succ]
      by_cases hn : q < n
      · obtain ⟨r, hr⟩ := ih hn
        rw [hr]
        exact ⟨_, rfl⟩
      · have e : n = q := by omega
        subst e
        rw [flt_none h2, if_pos h1, hv]
        exact ⟨[], rfl⟩
  obtain ⟨r, hr⟩ := key N₀ hq
  rw [hr]
  rfl
section
variable {w : World} {p : Program} {loose : List Str} {mean : ExcName → Option Value} {mg mb : Str → Option Value}
  {dp un : Nat} {gd : Option (List Code)} {outer : List Env} {A₀ : Around} {base h₀ : Heap} {L c : Addr} {s : Shared} {Q : Flow → Shared → Prop} {E : Value → Shared → Prop}
  {hs : List (Addr × Obj)} {P f : Addr} {ps : Array Value} {nm : Str} {t tc : Tok} {N₀ col : Nat} {fb hi to : Option Value} {oc : Obj}
theorem LastsIn.mono {hs hs' : List (Addr × Obj)} {nm : Str} {ys : List Value} {n : Nat} (x : LastsIn hs nm ys n) (h : ∀ q ∈ hs, q ∈ hs') : LastsIn hs' nm ys n :=
  ⟨x.1, fun j v hj => let ⟨e, t, u, k, a, b⟩ := x.2 j v hj; ⟨e, t, u, k, a, h _ b⟩⟩
theorem Tab119.mono {ps : Array Value} {hs hs' : List (Addr × Obj)} (x : Tab119 ps hs) (h : ∀ q ∈ hs, q ∈ hs') : Tab119 ps hs' := by
  rcases x with e | ⟨c1, c2, e, a, b⟩
  · exact .inl e
  · exact .inr ⟨c1, c2, e, a.mono h, b.mono h⟩
theorem lr_body {D : Addr} {ys : List Value} (B : Below A₀ base outer h₀) (F : Fr h₀ L s.heap (lrFr (.ref P) nm t fb (some (.ref D)) hi to)) (X : (hd.heap_39 w.params).In h₀) (N : News h₀ L s.heap ((119, tabObj ps) :: hs)) (T : Top p loose mean mg mb h₀)
  (hcell : (c, oc) ∈ hs) (hcd : oc.data = .cell (some (.int (col : Int) tc))) (C1 : CodeHd base 123 119) (hne : ∀ q ∈ hs, q.1 ≠ 119) (hps : Tab119 ps hs) (hP : ProgIn hs P f) (hS : SearchIn hs f) (hsz : nm.length ≤ 1000)
  (hD : (D, LCg.lst ys) ∈ hs) (hL : LastsIn hs nm ys N₀) (hN1 : N₀ ≤ 1000) (hszA : ∀ j, (ancPath nm j).length ≤ 1000) (hcol : col ≤ 2000)
  (hlaw : ∀ fd, SRes (sg nm) col fd → ToldOk nm N₀ col fd)
  (hd : dp + 40 < recursionLimit) (hu : un + 200 < cLine)
  (hret : ∀ hi' to' ps' hs' h' tk', Fr h₀ L h' (lrFr (.ref P) nm t fb (some (.ref D)) hi' to') → News h₀ L h' ((119, tabObj ps') :: hs') → (∀ q ∈ hs, q ∈ hs') → (∀ q ∈ hs', q.1 ≠ 119) → Tab119 ps' hs' → Q .next { s with heap := h', toks := tk' }) :
  wpAny (model PySem.Challenge.rw_ij0072_01.row.prog w) (ktrTop dp un gd (Str.ofString "_law_right") lrP.1.sc L 136 (.ref 135) [(Str.ofString "col", c)] outer) (execs [l5P.1.b1, l5P.1.b2, l5P.1.b3] (lrEnv L c)) Q E s := by
  refine wpAny_execs_cons (lr_hit B F X N T hcell hcd C1 hne hps hP hS hsz hd hu (fun vf fd ps' hs1 h1 tk1 sr F1 N1 sub1 ne1 tab1 fo => ?_))
  have tl := hlaw fd sr
  dsimp only
  cases fd with
  | none =>
    have e : vf = .none := fo
    subst e
    refine wpAny_execs_cons (lr_told_none B F1 X N1 T hsz hd hu (fun T1 h2 tk2 F2 N2 ne2 => ?_))
    dsimp only
    have sub2 : ∀ q ∈ hs, q ∈ (T1, W.listOf #[] 0) :: hs1 := fun q hq => .tail _ (sub1 q hq)
    refine wpAny_execs_cons (lr_cmp B F2 X N2 T (sub2 _ hcell) hcd (sub2 _ hD) (hL.mono sub2) hN1 hszA hcol (.head _) (by rw [flt_none tl]; rfl) (fun A s' _ _ j h1 h2 => absurd h1 (Nat.not_lt_zero _)) hd hu (fun h3 tk3 F3 N3 => ?_))
    dsimp only
    refine wpAny_execs_nil ?_
    exact hret _ _ ps' _ h3 tk3 F3 N3 sub2 (fun q hq => by
      rcases List.mem_cons.mp hq with rfl | hq
      · exact ne2
      · exact ne1 q hq) (tab1.mono fun q hq => .tail _ hq)
  | some ij =>
    obtain ⟨i, j⟩ := ij
    obtain ⟨r, rfl, hH⟩ := fo
    obtain ⟨q, hq, l1, l2, e1, e2⟩ := tl
    refine wpAny_execs_cons (lr_told_some B F1 X N1 T hH C1 hsz hd hu (fun T1 T2 t1 t2 h2 tk2 F2 N2 ne2 ne3 => ?_))
    dsimp only
    have sub2 : ∀ q ∈ hs, q ∈ (T1, W.listOf #[Value.ref T2] 0) :: (T2, W.listOf #[Value.int (i : Nat) t1, Value.str (Txt.slice nm none (some (j : Nat))) t2] 0) :: hs1 := fun q hq => .tail _ (.tail _ (sub1 q hq))
    have hqy : q < ys.length := by rw [hL.1]; exact hq
    obtain ⟨e, t3, u3, k3, he, hem⟩ := hL.2 q _ (List.getElem?_eq_getElem hqy)
    have htk : (fltP nm col ys N₀).take 1 = [.ref e] := flt_some hq l1 l2 (by rw [List.getElem?_eq_getElem hqy, he])
    refine wpAny_execs_cons (lr_cmp B F2 X N2 T (sub2 _ hcell) hcd (sub2 _ hD) (hL.mono sub2) hN1 hszA hcol (.head _) (by rw [htk]; rfl) (fun A s' hA hN j' h1 h2 => ?_) hd hu (fun h3 tk3 F3 N3 => ?_))
    · have hj0 : j' = 0 := by
        have : j' < 1 := h1
        omega
      subst hj0
      have x1 : ((fltP nm col ys N₀).take 1).toArray[0] = Value.ref e := by simp only [htk]; rfl
      rw [x1]
      show PySem.SeqAt.EqAt A s' (.ref T2) (.ref e) true
      by_cases hTe : T2 = e
      · rw [hTe]; exact PySem.SeqAt.EqAt.same _
      · refine PySem.SeqAt.EqAt.of_refs hTe ?_
        have hr := PySem.SeqAt.RcAt.lists (A := A) (s := s') (l := T2) (b := e) (items := #[Value.int (i : Nat) t1, Value.str (Txt.slice nm none (some (j : Nat))) t2]) (items2 := #[Value.int (lstOf (ancPath nm q)) t3, Value.str (ancPath nm q) u3]) (e := fun _ => true) ⟨_, News.get hN (.tail _ (.head _)), rfl, 0, rfl⟩ ⟨_, News.get hN (sub2 _ hem), rfl, k3, rfl⟩ rfl (by omega) (fun j2 g1 g2 => ?_)
        · exact hr
        · have hj : j2 = 0 ∨ j2 = 1 := by
            have : j2 < 2 := g1
            omega
          rcases hj with rfl | rfl
          · show PySem.SeqAt.EqAt A.in1 s' (.int (i : Nat) t1) (.int (lstOf (ancPath nm q)) t3) true
            rw [e1]
            have := PySem.SeqAt.EqAt.int_int (A := A.in1) (s := s') (i : Nat) t1 (i : Nat) t3
            simpa using this
          · exact eqAt_str (u := ancPath nm q) (by rw [e2]; rfl) rfl
    · dsimp only
      refine wpAny_execs_nil ?_
      exact hret _ _ ps' _ h3 tk3 F3 N3 sub2 (fun q hq => by
        rcases List.mem_cons.mp hq with rfl | hq
        · exact ne2
        rcases List.mem_cons.mp hq with rfl | hq
        · exact ne3
        · exact ne1 q hq) (tab1.mono fun q hq => .tail _ (.tail _ hq))
end
end
-- LR10
theorem off_LR10 : True := by (w_top off; exact trivial)
section
section
variable {prog : Program} {w : World} {A : Around} {E : Value → Shared → Prop} {s : Shared} {env : Env}
theorem For_gen {v : Str} {px pos : Pos} {iter : Expr} {body : List Stmt} {Q : Flow → Shared → Prop} (Inv : Addr → Nat → Shared → Prop)
    (h : wpAny (model prog w) A (eval iter env) (fun xv s₁ => wpAny (model prog w) A (pyIter xv) (fun it s₂ => ∃ I n, it = .ref I ∧ Inv I n s₂) E s₁) E s)
    (step : ∀ I n s', Inv I n s' → wpAny (model prog w) A (pyNext (.ref I)) (fun r s₁ => match r with | none => Q .next s₁ | some y => wpAny (model prog w) A (storeName env v y) (fun _ s₂ => wpAny (model prog w) A (execs body env) (fun f s₃ => f = .next ∧ ∃ k, k < n ∧ Inv I k s₃) E s₂) E s₁) E s')
    (hs : ∀ x, foldedSetIterable iter env x = pure x) (hE : PassesOwn (model prog w) A env E) :
    wpAny (model prog w) A (exec (.For (.Name v px) iter body [] pos) env) Q E s := by
  refine wpAny_For (wpAny_mono h (fun xv s₁ h₁ => wpAny_mono h₁ (fun it s₂ h₂ => ?_) fun _ _ z => z) fun _ _ z => z) hs
  obtain ⟨I, n, rfl, h₂⟩ := h₂
  refine codeAny_forLoop (R := fun r s' => match r with | .ok f => Q f s' | .error e => cameBackBy (model prog w) A env E e s') (fun k s' => Inv I k s') ?_ n h₂
  intro k s' hk
  refine wpAny_passesOwn hE (wpAny_mono (step I k s' hk) (fun r s₁ hr => ?_) fun _ _ z => z)
  cases r with
  | none => exact wpAny_execs_nil hr
  | some y =>
    refine wpAny_passesOwn hE (wpAny_assign_Name (wpAny_mono hr (fun _ s₂ h₂ => ?_) fun _ _ z => z))
    refine wpAny_passesOwn hE (wpAny_mono h₂ (fun f s₃ h₃ => ?_) fun _ _ z => z)
    obtain ⟨rfl, k', hk', hI⟩ := h₃
    exact ⟨k', hk', hI⟩
end
section
variable {w : World} {p : Program} {loose : List Str} {mean : ExcName → Option Value} {mg mb : Str → Option Value}
  {dp un : Nat} {gd : Option (List Code)} {outer : List Env} {A₀ : Around} {base h₀ : Heap} {L c : Addr} {s : Shared} {Q : Value → Shared → Prop} {E : Value → Shared → Prop}
  {news : List (Addr × Obj)} {P f : Addr} {nm : Str} {t : Tok} {fb la hi to : Option Value}
theorem lr_rng (B : Below A₀ base outer h₀) (F : Fr h₀ L s.heap (lrFr (.ref P) nm t fb la hi to)) (X : (hd.heap_39 w.params).In h₀) (N : News h₀ L s.heap news) (T : Top p loose mean mg mb h₀) (hsz : nm.length ≤ 1000)
  (hd : dp + 40 < recursionLimit) (hu : un + 200 < cLine)
  (hret : ∀ R t1 t2 t3 h' tk', IsRange h' R 0 ((nm.length : Int) + 2) 1 t1 t2 t3 → Fr h₀ L h' (lrFr (.ref P) nm t fb la hi to) → News h₀ L h' news → Q (.ref R) { s with heap := h', toks := tk' }) :
  wpAny (model PySem.Challenge.rw_ij0072_01.row.prog w) (ktrTop dp un gd (Str.ofString "_law_right") lrP.1.sc L 136 (.ref 135) [(Str.ofString "col", c)] outer) (eval l5P.1.rng (lrEnv L c)) Q E s := by
  have hfill : PySem.Challenge.rw_ij0072_01 = PySem.Challenge.rw_ij0072_01 → Mine.hd.heap_39 = Mine.hd.heap_39 → True := by
    k_fill
    intros; trivial
  clear hfill
  dsimp only [l5P]
  k_steps
  rename_i h2 tk2 u1 u2 u3 hR F2 N2 hk2
  exact hret _ u1 u2 u3 h2 _ hR F2 N2
end
end
-- LR11
theorem off_LR11 : True := by (w_top off; exact trivial)
section
noncomputable abbrev riO (i l : Int) : Obj := { cls := .type "range_iterator", dict := none, data := .fields #[rawInt i, rawInt l, rawInt 1], slots := #[] }
section
variable {w : World} {p : Program} {loose : List Str} {mean : ExcName → Option Value} {mg mb : Str → Option Value}
  {dp un : Nat} {gd : Option (List Code)} {outer : List Env} {A₀ : Around} {base h₀ : Heap} {L c : Addr} {s : Shared} {Q : Flow → Shared → Prop} {E : Value → Shared → Prop}
  {hs : List (Addr × Obj)} {P f : Addr} {ps : Array Value} {nm : Str} {t : Tok} {N₀ : Nat} {fb hi to : Option Value} {oc : Obj}
structure LoopIn (h₀ : Heap) (L c P : Addr) (nm : Str) (t : Tok) (fb la : Option Value) (hs : List (Addr × Obj)) (n : Nat) (s : Shared) (I : Addr) (k : Nat) (s' : Shared) : Prop where
  out : ∃ i ps hs' hi to oc h tk v, k = n - i ∧ i ≤ n ∧ s' = { s with heap := h, toks := tk } ∧ Fr h₀ L h (lrFr (.ref P) nm t fb la hi to) ∧ News h₀ L h ((I, riO (i : Nat) ((n : Int) - (i : Nat))) :: (119, tabObj ps) :: (c, oc) :: hs') ∧ oc.data = .cell v ∧
    (∀ q ∈ hs', q.1 ≠ I ∧ q.1 ≠ 119 ∧ q.1 ≠ c) ∧ I ≠ 119 ∧ I ≠ c ∧ c ≠ 119 ∧ Tab119 ps hs' ∧ (∀ q ∈ hs, q ∈ hs')
theorem tab_filter {ps : Array Value} {hs : List (Addr × Obj)} {pr : Addr × Obj → Bool} (x : Tab119 ps hs) (h : ∀ c q, CodeIn hs c q → CodeIn (hs.filter pr) c q) : Tab119 ps (hs.filter pr) := by
  rcases x with e | ⟨c1, c2, e, a, b⟩
  · exact .inl e
  · exact .inr ⟨c1, c2, e, h _ _ a, h _ _ b⟩
theorem lr_loop {D : Addr} {ys : List Value} {v₀ : Option Value} (B : Below A₀ base outer h₀) (F : Fr h₀ L s.heap (lrFr (.ref P) nm t fb (some (.ref D)) hi to)) (X : (hd.heap_39 w.params).In h₀) (N : News h₀ L s.heap ((119, tabObj ps) :: (c, oc) :: hs)) (T : Top p loose mean mg mb h₀)
  (hcd : oc.data = .cell v₀) (hap : ∀ q ∈ hs, q.1 ≠ 119 ∧ q.1 ≠ c) (hc119 : c ≠ 119) (C1 : CodeHd base 123 119) (hps : Tab119 ps hs) (hP : ProgIn hs P f) (hS : SearchIn hs f) (hsz : nm.length ≤ 1000)
  (hD : (D, LCg.lst ys) ∈ hs) (hL : LastsIn hs nm ys N₀) (hN1 : N₀ ≤ 1000) (hszA : ∀ j, (ancPath nm j).length ≤ 1000)
  (hlaw : ∀ col fd, SRes (sg nm) col fd → ToldOk nm N₀ col fd)
  (hd : dp + 40 < recursionLimit) (hu : un + 200 < cLine)
  (hret : ∀ hi' to' ps' oc' hs' h' tk', Fr h₀ L h' (lrFr (.ref P) nm t fb (some (.ref D)) hi' to') → News h₀ L h' ((119, tabObj ps') :: (c, oc') :: hs') → (∀ q ∈ hs', q.1 ≠ 119 ∧ q.1 ≠ c) → Tab119 ps' hs' → (∀ q ∈ hs, q ∈ hs') → Q .next { s with heap := h', toks := tk' })
  (hE : PassesOwn (model PySem.Challenge.rw_ij0072_01.row.prog w) (ktrTop dp un gd (Str.ofString "_law_right") lrP.1.sc L 136 (.ref 135) [(Str.ofString "col", c)] outer) (lrEnv L c) E) :
  wpAny (model PySem.Challenge.rw_ij0072_01.row.prog w) (ktrTop dp un gd (Str.ofString "_law_right") lrP.1.sc L 136 (.ref 135) [(Str.ofString "col", c)] outer) (exec lrP.1.s5 (lrEnv L c)) Q E s := by
  show wpAny _ _ (exec (.For (.Name (Str.ofString "col") l5P.1.vp) l5P.1.rng [l5P.1.b1, l5P.1.b2, l5P.1.b3] [] l5P.1.fp) (lrEnv L c)) _ _ _
  refine For_gen (LoopIn h₀ L c P nm t fb (some (.ref D)) hs (nm.length + 2) s) ?_ ?_ (by intro _; rfl) hE
  · refine lr_rng B F X N T hsz hd hu (fun R t1 t2 t3 h1 tk1 hR F1 N1 => ?_)
    have e2 : ((nm.length : Int) + 2) = ((nm.length + 2 : Nat) : Int) := by omega
    rw [e2] at hR
    have hn : (Builtin.Range.rangeSize 0 ((nm.length + 2 : Nat) : Int) 1) = ((nm.length + 2 : Nat) : Int) := by
      rw [rangeSize_pos (by omega) (by omega)]
      omega
    refine wpAny_pyIter_range hR ?hsm ?_
    case hsm =>
      unfold Builtin.Range.small Builtin.Range.rangeFitsLong
      rw [hn]
      simp
      omega
    refine ⟨h1.objs.size, nm.length + 2, rfl, ⟨0, ps, hs, hi, to, oc, _, tk1, v₀, rfl, Nat.zero_le _, rfl, F1.push _, ?_, hcd, fun q hq => ⟨Nat.ne_of_lt (Heap.lt_size (N1 q (.tail _ (.tail _ hq))).1), hap q hq⟩, ?_, ?_, hc119, hps, fun q hq => hq⟩⟩
    · rw [hn]
      have := N1.push F1 (riO 0 ((nm.length + 2 : Nat) : Int)) rfl
      simpa using this
    · exact Nat.ne_of_gt (Heap.lt_size (N1 _ (.head _)).1)
    · exact Nat.ne_of_gt (Heap.lt_size (N1 _ (.tail _ (.head _))).1)
  · rintro I k s' ⟨i, ps1, hs1, hi1, to1, oc1, h1, tk1, v1, hk, hin, rfl, F1, N1, hcd1, hap1, hI1, hI2, hc1, tab1, sub1⟩
    by_cases hlt : i < nm.length + 2
    · refine (LCg.range_walks (I := I) rfl 0 (nm.length + 2)).item i _ _ _ hlt (by
        have := (N1 _ (.head _)).1
        show h1.get? I = _
        rw [this]
        simp) (fun v h2 tk2 hv st2 hk2 => ?_)
      obtain ⟨tv, rfl⟩ := hv
      have ev : (0 : Int) + (i : Int) = ((i : Nat) : Int) := Int.zero_add _
      rw [ev]
      have kk : ∀ b o, b ≠ I → h1.get? b = some o → h2.get? b = some o := fun b o hb e => hk2 b o (by simpa using hb) e
      have NI := N1 _ (.head _)
      have N119 := N1 _ (.tail _ (.head _))
      have Nc := N1 _ (.tail _ (.tail _ (.head _)))
      have F2 : Fr h₀ L h2 (lrFr (.ref P) nm t fb (some (.ref D)) hi1 to1) := ⟨F1.ns.at' fun o e => kk _ o (Ne.symm NI.2.1) e, fun b o e => kk b o (fun q => by rw [q, NI.2.2] at e; cases e) (F1.keep b o e), F1.above⟩
      have gI : h2.get? I = some (riO ((i + 1 : Nat) : Int) (((nm.length + 2 : Nat) : Int) - ((i + 1 : Nat) : Int))) := by
        have : h2.get? I = some _ := st2
        rw [this]
        simp
      refine wpAny_storeName_cell (v₀ := v1) (c := c) rfl rfl rfl ⟨oc1, kk _ _ (Ne.symm hI2) Nc.1, hcd1⟩ (fun h3 hcell hs3 => ?_)
      obtain ⟨oc2, gc, hcd2⟩ := hcell
      have k3 : ∀ b o, b ≠ c → h2.get? b = some o → h3.get? b = some o := fun b o hb e => (hs3.2 b hb).trans e
      have F3 : Fr h₀ L h3 (lrFr (.ref P) nm t fb (some (.ref D)) hi1 to1) := ⟨F2.ns.at' fun o e => k3 _ o (Ne.symm Nc.2.1) e, fun b o e => k3 b o (fun q => by rw [q, Nc.2.2] at e; cases e) (F2.keep b o e), F2.above⟩
      have N3 : News h₀ L h3 ((119, tabObj ps1) :: (I, riO ((i + 1 : Nat) : Int) (((nm.length + 2 : Nat) : Int) - ((i + 1 : Nat) : Int))) :: (c, oc2) :: hs1) := fun q hq => by
        rcases List.mem_cons.mp hq with rfl | hq
        · exact ⟨k3 _ _ (Ne.symm hc1) (kk _ _ (Ne.symm hI1) N119.1), N119.2⟩
        rcases List.mem_cons.mp hq with rfl | hq
        · exact ⟨k3 _ _ hI2 gI, NI.2⟩
        rcases List.mem_cons.mp hq with rfl | hq
        · exact ⟨gc, Nc.2⟩
        · have n := N1 q (.tail _ (.tail _ (.tail _ hq)))
          exact ⟨k3 _ _ (hap1 q hq).2.2 (kk _ _ (hap1 q hq).1 n.1), n.2⟩
      have subA : ∀ q ∈ hs, q ∈ (I, riO ((i + 1 : Nat) : Int) (((nm.length + 2 : Nat) : Int) - ((i + 1 : Nat) : Int))) :: (c, oc2) :: hs1 := fun q hq => .tail _ (.tail _ (sub1 q hq))
      refine lr_body (oc := oc2) (tc := tv) B F3 X N3 T (.tail _ (.head _)) hcd2 C1 (fun q hq => ?_) (tab1.mono fun q hq => .tail _ (.tail _ hq)) (hP.mono subA) (hS.mono subA) hsz (subA _ hD) (hL.mono subA) hN1 hszA (by omega) (hlaw i) hd hu (fun hi4 to4 ps4 hs4 h4 tk4 F4 N4 sub4 ne4 tab4 => ?_)
      · rcases List.mem_cons.mp hq with rfl | hq
        · exact hI1
        rcases List.mem_cons.mp hq with rfl | hq
        · exact hc1
        · exact (hap1 q hq).2.1
      · refine ⟨rfl, nm.length + 2 - (i + 1), by omega, ⟨i + 1, ps4, hs4.filter (fun q => decide (q.1 ≠ I) && decide (q.1 ≠ c)), hi4, to4, oc2, h4, tk4, _, rfl, hlt, rfl, F4, ?_, hcd2, ?_, hI1, hI2, hc1, ?_, ?_⟩⟩
        · intro q hq
          rcases List.mem_cons.mp hq with rfl | hq
          · exact N4 _ (.tail _ (sub4 _ (.head _)))
          rcases List.mem_cons.mp hq with rfl | hq
          · exact N4 _ (.head _)
          rcases List.mem_cons.mp hq with rfl | hq
          · exact N4 _ (.tail _ (sub4 _ (.tail _ (.head _))))
          · exact N4 _ (.tail _ (List.mem_filter.mp hq).1)
        · intro q hq
          obtain ⟨m1, m2⟩ := List.mem_filter.mp hq
          obtain ⟨m3, m4⟩ := Bool.and_eq_true_iff.mp m2
          exact ⟨of_decide_eq_true m3, ne4 q m1, of_decide_eq_true m4⟩
        · refine tab_filter tab4 (fun c' q' hc' => ?_)
          obtain ⟨o', vs', t', a', b', d'⟩ := hc'
          refine ⟨o', vs', t', List.mem_filter.mpr ⟨a', ?_⟩, b', d'⟩
          have g' := (N4 _ (.tail _ a')).1
          have gI4 := (N4 _ (.tail _ (sub4 _ (.head _)))).1
          have gc4 := (N4 _ (.tail _ (sub4 _ (.tail _ (.head _))))).1
          simp only [Bool.and_eq_true, decide_eq_true_eq]
          refine ⟨fun z => ?_, fun z => ?_⟩
          · have z' : c' = I := z
            rw [z', gI4] at g'
            have : riO ((i + 1 : Nat) : Int) (((nm.length + 2 : Nat) : Int) - ((i + 1 : Nat) : Int)) = o' := Option.some.inj g'
            have e5 := (congrArg Obj.data this).trans b'
            injection e5 with e6
            rw [← e6] at d'
            simp [rawInt] at d'
          · have z' : c' = c := z
            rw [z', gc4] at g'
            have : oc2 = o' := Option.some.inj g'
            rw [← this, hcd2] at b'
            cases b'
        · intro q hq
          have m := sub1 q hq
          refine List.mem_filter.mpr ⟨sub4 _ (.tail _ (.tail _ m)), ?_⟩
          simp only [Bool.and_eq_true, decide_eq_true_eq]
          exact ⟨(hap1 q m).1, (hap1 q m).2.2⟩
    · have hi : i = nm.length + 2 := by omega
      have hk0 : nm.length + 2 - i = 0 := by omega
      have NI := N1 _ (.head _)
      refine (LCg.range_walks (I := I) rfl 0 (nm.length + 2)).done _ _ _ (by
        have := NI.1
        show h1.get? I = _
        rw [this, hi]
        simp) (fun h2 tk2 hk2 => ?_)
      have kk : ∀ b o, b ≠ I → h1.get? b = some o → h2.get? b = some o := fun b o hb e => hk2 b o (by simpa using hb) e
      refine hret _ _ ps1 oc1 hs1 h2 tk2 ⟨F1.ns.at' fun o e => kk _ o (Ne.symm NI.2.1) e, fun b o e => kk b o (fun q => by rw [q, NI.2.2] at e; cases e) (F1.keep b o e), F1.above⟩ (fun q hq => ?_) (fun q hq => (hap1 q hq).2) tab1 sub1
      rcases List.mem_cons.mp hq with rfl | hq
      · exact ⟨kk _ _ (Ne.symm hI1) (N1 _ (.tail _ (.head _))).1, (N1 _ (.tail _ (.head _))).2⟩
      rcases List.mem_cons.mp hq with rfl | hq
      · exact ⟨kk _ _ (Ne.symm hI2) (N1 _ (.tail _ (.tail _ (.head _)))).1, (N1 _ (.tail _ (.tail _ (.head _)))).2⟩
      · have n := N1 q (.tail _ (.tail _ (.tail _ hq)))
        exact ⟨kk _ _ (hap1 q hq).1 n.1, n.2⟩
end
end
-- LR12
theorem off_LR12 : True := by (w_top off; exact trivial)
section
noncomputable def LeaveT (h₀ : Heap) (L : Addr) (m : Str → Option Value) (g : Heap) (R : Result → Shared → Prop) (v : Value) (s' : Shared) : Prop :=
  ∃ g₂ L' m' news', KtsTurn [L] g g₂ ∧ Fr g₂ L' s'.heap m' ∧ News g₂ L' s'.heap news' ∧ (Fr h₀ L s'.heap m → News h₀ L s'.heap news' → R (.ok (.ret v)) s')
theorem leaveT_ok {h₀ g : Heap} {L : Addr} {m : Str → Option Value} {R : Result → Shared → Prop} {v : Value} {s' : Shared} (FG : Fr h₀ L g m) (hl : LeaveT h₀ L m g R v s') : R (.ok (.ret v)) s' := by
  obtain ⟨g₂, L', m', news', T, F', N', k⟩ := hl
  have nL : h₀.get? L = none := kts_self FG
  obtain ⟨oL, es, ep, hL, hLd, r1, r2⟩ := FG.ns
  obtain ⟨sl, hsl⟩ := T.up hL
  refine k ⟨⟨_, es, ep, F'.keep _ _ hsl, hLd, r1, r2⟩, fun b o e => F'.keep b o (T.other b o (FG.keep b o e) (fun hm => ?_)), FG.above⟩ (fun q hq => ⟨(N' q hq).1, fun z => ?_, ?_⟩)
  · have z : b = L := List.mem_singleton.mp hm
    rw [z, nL] at e; cases e
  · have := (N' q hq).2.2
    rw [z, hsl] at this; cases this
  · cases hq0 : h₀.get? q.1 with
    | none => rfl
    | some o =>
      have n := (N' q hq).2.2
      obtain ⟨sl2, h2⟩ := T.up (FG.keep _ _ hq0)
      rw [n] at h2; cases h2
section
variable {prog : Program} {w : World} {A₀ A : Around} {s : Shared} {base h₀ : Heap} {outer : List Env} {L : Addr} {m : Str → Option Value} {env : Env} {news : List (Addr × Obj)}
  {R : Result → Shared → Prop} {name qual : Str} {params : Arguments} {body : List Stmt} {scope : Scope} {dV kV doc pm cdv ct : Value} {an : Option Addr} {fo : Obj} {f : Addr} {args : Args} {binds : List (Str × Value)}
theorem callT_cells (B : Below A₀ base outer h₀) (F : Fr h₀ L s.heap m) (N : News h₀ L s.heap news) (hlim : h₀.NoLimit) (hA : A.frames = some (env :: outer)) (hf : env.frame = some L) (hke : env.scope.kind = .function)
    (ho : s.heap.get? f = some fo) (hd : fo.data = .func (fnX name qual params body scope [] dV kV doc pm an cdv ct)) (hcd : s.heap.CodeRec cdv qual) (hroom : A.depth < recursionLimit)
    (hbind : BindsTo s (fnX name qual params body scope [] dV kV doc pm an cdv ct) args binds)
    (hkind : ∀ n, ∀ x ∈ binds, scope.names.lookup x.1 = some .local ∨ (scope.names.lookup x.1 = some .cell ∧ ((cellsFrom n scope.names []).lookup x.1).isSome = true))
    (hnd : ((cellsFrom 0 scope.names []).map (·.1)).Nodup)
    (h : ∀ g L' h₁ tk cells, Fr h₀ L g m → Fr g L' h₁ (bindL (envOfC qual scope L' f cdv).kindOf binds fun _ => none) → News g L' h₁ (cells ++ news) →
      CellsAre (bindC (envOfC qual scope L' f cdv).kindOf binds fun _ => none) (cellsFrom (L' + 1) scope.names []) cells → Below A base (env :: outer) g → h₀.StaysIn g → (∀ p ∈ news, p.1 < L') →
      wpAny (model prog w) (A.deeper (envOfC qual scope L' f cdv)) (execs body (envOfC qual scope L' f cdv))
        (fun fl s' => LeaveT h₀ L m g R (match fl with | .ret v => v | _ => .none) s')
        (fun e s' => wpAny (model prog w) (A.deeper (envOfC qual scope L' f cdv)) (leaving (envOfC qual scope L' f cdv) e) (fun _ s'' => R (.error e) s'') (fun e' s'' => R (.error e') s'') s')
        { s with heap := h₁, toks := tk })
    (hco : scope.isCoroutine = false := by rfl) (hgen : scope.isGenerator = false := by rfl) (hk : scope.kind = .function := by rfl) : codeAny (model prog w) A (.call (.ref f) args) R s := by
  obtain ⟨FG, BG, st, _⟩ := groundX (R := R) B F N hA hf hke
  refine codeAny_call_function hroom ho hd hco hgen rfl hcd (hbind _ _ _ _ ?_)
  refine wpAny_newFunctionEnv_cells hk (hkind _) fun env' he s' x => ?_
  subst he
  refine ⟨(hlim.keeps F.keep).keeps x.toInCall.keep, codeAny_func ?_⟩
  obtain ⟨h₁, tk, rfl, _⟩ := x.done
  have hk₁ := x.toInCall.keep
  obtain ⟨cells, NC, Y⟩ := Cl.news (h₀ := s.heap) (Nat.le_refl _) fun n c hm => ⟨x.cell n c (lookup_of_mem_nodup (cellsFrom_names scope.names 0 (s.heap.objs.size + 1) [] [] rfl ▸ hnd) hm), x.above n c hm⟩
  refine wpAny_mono (h _ s.heap.objs.size h₁ tk cells FG ⟨x.toInCall.ns, fun b o e => hk₁ b o (of_hideAll _ e), Nat.le_of_eq (hideAll_size _ _)⟩ (fun p hp => ?_) Y BG st (fun p hp => Heap.lt_size (N p hp).1)) (fun fl s' hl => leaveT_ok FG hl) fun _ _ y => y
  rcases List.mem_append.mp hp with hp | hp
  · refine ⟨(NC p hp).1, (NC p hp).2.1, ?_⟩
    cases q : (hideAll s.heap (news.map (·.1))).get? p.1 with
    | none => rfl
    | some o => have := of_hideAll _ q; rw [(NC p hp).2.2] at this; cases this
  · exact ⟨hk₁ _ _ (N p hp).1, Nat.ne_of_lt (Heap.lt_size (N p hp).1), hideAll_none _ (List.mem_map_of_mem hp)⟩
end
end
-- LR13
theorem off_LR13 : True := by (w_top off; exact trivial)
section
local macro_rules | `(tactic| walk_at "never") => `(tactic| fail)
theorem lrFr_start {k : Str → Option NameKind} {P : Addr} {nm : Str} {t : Tok} (h1 : k (Str.ofString "prog") = some .local) (h2 : k (Str.ofString "name") = some .local) :
    bindL k [(Str.ofString "prog", Value.ref P), (Str.ofString "name", Value.str nm t)] (fun _ => none) = lrFr (.ref P) nm t none none none none := by
  funext y
  simp only [bindL, h1, h2, if_true, lrFr]
  by_cases a1 : y = Str.ofString "forebears"
  · rw [a1]; rfl
  by_cases a2 : y = Str.ofString "lasts"
  · rw [a2]; rfl
  by_cases a3 : y = Str.ofString "hit"
  · rw [a3]; rfl
  by_cases a4 : y = Str.ofString "told"
  · rw [a4]; rfl
  simp only [a1, a2, a3, a4, if_false]
section
variable {w : World} {p : Program} {loose : List Str} {mean : ExcName → Option Value} {mg mb : Str → Option Value}
  {dp un : Nat} {gd : Option (List Code)} {cn : Str} {cs : Scope} {a : Addr} {ccd : Value} {cl : List (Str × Addr)} {A₀ : Around} {base h₀ : Heap} {L : Addr} {m : Str → Option Value} {s : Shared} {Q E : Value → Shared → Prop}
  {ps : Array Value} {hs : List (Addr × Obj)} {P f : Addr} {nm : Str} {t : Tok} {N₀ : Nat}
theorem law_right_spec (B : Below A₀ base [] h₀) (F : Fr h₀ L s.heap m) (X : (hd.heap_39 w.params).In h₀) (N : News h₀ L s.heap ((119, tabObj ps) :: hs)) (T : Top p loose mean mg mb h₀) (hk : cs.kind = .function)
  (Xb : (hd.heap_39 w.params).In base) (Tb : Top p loose mean mg mb base) (hbs : base.objs.size ≤ h₀.objs.size)
  (C1 : CodeHd base 123 119) (hne : ∀ q ∈ hs, q.1 ≠ 119) (hps : Tab119 ps hs) (hP : ProgIn hs P f) (hS : SearchIn hs f)
  (hN : AncN nm N₀) (hN1 : N₀ ≤ 1000) (hcnt : ((Txt.split nm (Str.ofString "/")).filter (fun a => a != Str.ofString "")).length = N₀) (hlaw : ∀ col fd, SRes (sg nm) col fd → ToldOk nm N₀ col fd) (hbare : AllBare s.gens)
  (hd : dp + 60 < recursionLimit) (hu : un + 300 < cLine)
  (hret : ∀ ps' hs' h' tk' gens', Fr h₀ L h' m → News h₀ L h' ((119, tabObj ps') :: hs') → (∀ q ∈ hs, q ∈ hs') → (∀ q ∈ hs', q.1 ≠ 119) → Tab119 ps' hs' → AllBare gens' → Q (.bool true) ⟨h', gens', s.drawn, tk', s.os⟩) :
  wpAny (model PySem.Challenge.rw_ij0072_01.row.prog w) (ktrTop dp un gd cn cs L a ccd cl []) (call (.ref 136) [.ref P, .str nm t]) Q E s := by
  have hfill : PySem.Challenge.rw_ij0072_01 = PySem.Challenge.rw_ij0072_01 → Mine.hd.heap_39 = Mine.hd.heap_39 → True := by
    k_fill
    intros; trivial
  clear hfill
  have hcode : s.heap.CodeRec (.ref 135) "_law_right" := codeRec_of (X.keeps F.keep) (by k_is)
  refine wpAny_call (callT_cells (fo := lrObj.1) (scope := lrP.1.sc) (body := [lrP.1.s1, lrP.1.s2, lrP.1.s3, lrP.1.s4, lrP.1.s5, lrP.1.s6]) (binds := [(Str.ofString "prog", .ref P), (Str.ofString "name", .str nm t)]) B F N T.nolimit rfl rfl hk ((X.keeps F.keep) _ _ (lrObj.2 _)) rfl hcode (by show dp < recursionLimit; omega) (BindsTo.of_eq rfl) (kindsX rfl) (by decide +kernel) (fun g L' h₁ tk cells FG F' N' Y B' st l => ?_) rfl rfl rfl)
  obtain ⟨oc, hcells, hcd⟩ := CellsAre.one Y
  subst hcells
  have F1 : Fr g L' h₁ (lrFr (.ref P) nm t none none none none) := by
    rw [← lrFr_start (k := (envOfC (Str.ofString "_law_right") lrP.1.sc L' 136 (.ref 135)).kindOf) rfl rfl]
    exact F'
  have X1 := X.keeps st
  have T1 := T.keeps st
  have hG1 : base.StaysIn g := B'.stays
  have hbs1 : base.objs.size ≤ g.objs.size := Nat.le_trans hbs (Nat.le_trans FG.above (Nat.le_of_lt FG.ns.lt))
  refine wpAny_execs_cons (lr_fore (c := L' + 1) (dp := dp + 1) (un := un + 3) B' F1 X1 N' T1 hG1 Xb Tb hbs1 hN hN1 (by omega) (by omega) hbare (fun S ag acc cc g0 n1 n2 t1 t2 h2 tk2 gens2 F2 N2 l1 l2 hacc hb2 => ?_))
  dsimp only
  refine wpAny_execs_cons (lr_len (c := L' + 1) (dp := dp + 1) (un := un + 3) B' F2 X1 N2 T1 hN1 hN.sz0 hacc.1 hcnt (by omega) (by omega) (fun h3 tk3 F3 N3 => ?_))
  dsimp only
  refine wpAny_execs_cons (lr_par (c := L' + 1) (dp := dp + 1) (un := un + 3) B' F3 X1 N3 T1 hG1 Xb Tb hbs1 hN hN1 (by omega) (by omega) hb2 hacc (fun h4 tk4 gens4 hTu hb4 => ?_))
  dsimp only
  obtain ⟨g₂, T₂, F4, N4, B4⟩ := hTu
  have X4 := Xb.keeps B4.stays
  have P4 := Tb.keeps B4.stays
  refine wpAny_execs_cons (lr_lasts (c := L' + 1) (dp := dp + 1) (un := un + 3) B4 F4 X4 N4 P4 hN1 hN.sz hacc (by omega) (by omega) (fun D ys hs5 h5 tk5 F5 N5 sub5 ne5 hL5 => ?_))
  dsimp only
  have mc : (L' + 1, oc) ∈ hs5 := sub5 _ (.tail _ (.tail _ (.head _)))
  have m119 : (119, tabObj ps) ∈ hs5 := sub5 _ (.tail _ (.tail _ (.tail _ (.head _))))
  have subh : ∀ q ∈ hs, q ∈ hs5 := fun q hq => sub5 _ (.tail _ (.tail _ (.tail _ (.tail _ hq))))
  have hcL : ∀ q ∈ hs, q.1 ≠ L' + 1 := fun q hq => Nat.ne_of_lt (Nat.lt_succ_of_lt (l q (.tail _ hq)))
  have hc119 : (L' + 1 : Nat) ≠ 119 := Nat.ne_of_gt (Nat.lt_succ_of_lt (l (119, tabObj ps) (.head _)))
  have g119 := (N5 _ (.tail _ m119)).1
  have gc := (N5 _ (.tail _ mc)).1
  have sub6 : ∀ q ∈ hs, q ∈ ((D, LCg.lst ys) :: hs5).filter (fun q => decide (q.1 ≠ 119) && decide (q.1 ≠ L' + 1)) := fun q hq => List.mem_filter.mpr ⟨.tail _ (subh q hq), by simp only [Bool.and_eq_true, decide_eq_true_eq]; exact ⟨hne q hq, hcL q hq⟩⟩
  have N6 : News g₂ L' h5 ((119, tabObj ps) :: (L' + 1, oc) :: ((D, LCg.lst ys) :: hs5).filter (fun q => decide (q.1 ≠ 119) && decide (q.1 ≠ L' + 1))) := fun q hq => by
    rcases List.mem_cons.mp hq with rfl | hq
    · exact N5 _ (.tail _ m119)
    rcases List.mem_cons.mp hq with rfl | hq
    · exact N5 _ (.tail _ mc)
    · exact N5 _ (List.mem_filter.mp hq).1
  have hL6 : LastsIn (((D, LCg.lst ys) :: hs5).filter (fun q => decide (q.1 ≠ 119) && decide (q.1 ≠ L' + 1))) nm ys N₀ := ⟨hL5.1, fun j v hj => by
    obtain ⟨e, x1, x2, k, h1, h2⟩ := hL5.2 j v hj
    have ge := (N5 _ (.tail _ h2)).1
    refine ⟨e, x1, x2, k, h1, List.mem_filter.mpr ⟨.tail _ h2, ?_⟩⟩
    simp only [Bool.and_eq_true, decide_eq_true_eq]
    refine ⟨fun z => ?_, fun z => ?_⟩
    · have z' : e = 119 := z
      rw [z', g119] at ge
      have := congrArg Obj.data (Option.some.inj ge)
      cases this
    · have z' : e = L' + 1 := z
      rw [z', gc] at ge
      have := congrArg Obj.data (Option.some.inj ge)
      rw [hcd] at this
      cases this⟩
  refine wpAny_execs_cons (lr_loop (c := L' + 1) (dp := dp + 1) (un := un + 3) (f := f) B4 F5 X4 N6 P4 hcd (fun q hq => ?_) hc119 C1 (hps.mono sub6) (hP.mono sub6) (hS.mono sub6) hN.sz0 (List.mem_filter.mpr ⟨.head _, ?_⟩) hL6 hN1 hN.sz hlaw (by omega) (by omega) (fun hi' to' ps7 oc7 hs7 h7 tk7 F7 N7 ap7 tab7 sub7 => ?_) ?hE)
  case hE => first | passes_own | with_unfolding_all passes_own
  · obtain ⟨_, m2⟩ := List.mem_filter.mp hq
    simp only [Bool.and_eq_true, decide_eq_true_eq] at m2
    exact m2
  · simp only [Bool.and_eq_true, decide_eq_true_eq]
    exact ⟨fun z => ne5 _ m119 z.symm, fun z => ne5 _ mc z.symm⟩
  dsimp only
  refine wpAny_execs_cons ?_
  dsimp only [lrP]
  refine wpAny_Return_some ?_
  walk1
  refine ⟨g₂, L', _, (119, tabObj ps7) :: hs7, T₂, F7, fun q hq => ?_, fun F8 N8 => ?_⟩
  · rcases List.mem_cons.mp hq with rfl | hq
    · exact N7 _ (.head _)
    · exact N7 _ (.tail _ (.tail _ hq))
  · exact hret ps7 hs7 h7 tk7 gens4 F8 N8 (fun q hq => sub7 q (sub6 q hq)) (fun q hq => (ap7 q hq).1) tab7 hb4
end
end
-- Post
theorem off_Post : True := by (w_top off; exact trivial)
section
theorem kn_postG {M : Model} {A : Around} {cd : Code} {s s₁ : Shared} {cw : ClaimW} {cl : Str → Option Addr} {mean : ExcName → Option Value} {args : List WData} {tabs : List (Addr × Addr)} (hT : TabsAt tabs s₁.heap) (hr : ∀ a x, cw.raises a x = false)
    (h : codeAny M A cd (fun r s' => GoodW cw cl mean args { s₁ with heap := ghostOf s₁.heap tabs } r { s' with gens := #[] } ∧ AllBare s'.gens ∧ GrownAll tabs s'.heap) s) : codeAny M A cd (GoodWG cw cl mean args s₁) s :=
  codeAny_mono h fun r s' ⟨⟨hc, hk, hos, _⟩, hb0, hgr⟩ => by
    have keep : ∀ b o, b ∉ tabs.map (·.2) → s₁.heap.get? b = some o → s'.heap.get? b = some o := fun b o hb e => hk b o (ghost_ne e hb)
    have grown : ∀ b o, b ∈ tabs.map (·.2) → s₁.heap.get? b = some o → isCodeTable s₁.heap b ∧ o = tabObj #[] ∧ ∃ ps, s'.heap.get? b = some (tabObj ps) := fun b o hb e => by
      obtain ⟨q, hq, rfl⟩ := List.mem_map.mp hb
      have e2 := (hT q hq).2
      rw [e] at e2
      exact ⟨((hT q hq).1.tab (hT q hq).2).isCodeTable, Option.some.inj e2, hgr.get q hq⟩
    refine ⟨?_, ⟨fun b o e => ?_, fun b o e => ?_⟩, hos, hb0⟩
    · rcases hc with ⟨v, d, as, r1, r2, r3, r4, r5⟩ | ⟨e, ob, x, _, _, _, r4, _⟩
      · refine .inl ⟨v, d, as, r1, r2, r3, r4, fun q => ⟨(r5 q).1, fun a ha => ?_⟩⟩
        cases q1 : s₁.heap.get? a with
        | none => rfl
        | some o =>
          by_cases hb : a ∈ tabs.map (·.2)
          · obtain ⟨_, _, ps, hP⟩ := grown a o hb q1
            exact absurd ha (readsW_apart hP rfl r3)
          · have e3 := (r5 q).2 a ha
            rw [show (ghostOf s₁.heap tabs).get? a = some o from ghost_ne q1 hb] at e3
            cases e3
      · rw [hr] at r4; cases r4
    · by_cases hb : b ∈ tabs.map (·.2)
      · obtain ⟨ht, rfl, ps, hP⟩ := grown b o hb e
        exact .inr (.inl ⟨ht, rfl, #[], ps, rfl, by rw [Array.empty_append]; exact hP⟩)
      · exact .inl (keep b o hb e)
    · by_cases hb : b ∈ tabs.map (·.2)
      · obtain ⟨_, _, ps, hP⟩ := grown b o hb e
        exact ⟨_, hP⟩
      · exact ⟨o, keep b o hb e⟩
end
-- PL1
theorem off_PL1 : True := by (w_top off; exact trivial)
section
namespace PLw
noncomputable def isS (l : List Nat) (k : Nat) : Bool := l[k]? == some 47
noncomputable def bS (l : List Nat) : Nat → Nat
  | 0 => 0
  | n+1 => if isS l n then bS l n else n+1
noncomputable def bN (l : List Nat) : Nat → Nat
  | 0 => 0
  | n+1 => if isS l n then n+1 else bN l n
noncomputable def cP (l : List Nat) : Nat → Nat
  | 0 => 0
  | n+1 => cP l n + if (!isS l n && (n == 0 || isS l (n-1))) then 1 else 0
noncomputable def pth (l : List Nat) : Nat → Nat
  | 0 => bS l l.length
  | j+1 => bS l (bN l (pth l j))
theorem bS_le (l : List Nat) : ∀ n, bS l n ≤ n
  | 0 => Nat.le_refl _
  | n+1 => by
    have := bS_le l n
    unfold bS; split <;> omega
theorem bN_le (l : List Nat) : ∀ n, bN l n ≤ n
  | 0 => Nat.le_refl _
  | n+1 => by
    have := bN_le l n
    unfold bN; split <;> omega
theorem bS_all (l : List Nat) : ∀ n k, bS l n ≤ k → k < n → isS l k = true
  | 0, _, _, h => absurd h (Nat.not_lt_zero _)
  | n+1, k, h1, h2 => by
    unfold bS at h1
    split at h1
    · by_cases e : k = n
      · subst e; assumption
      · exact bS_all l n k h1 (by omega)
    · omega
theorem bN_all (l : List Nat) : ∀ n k, bN l n ≤ k → k < n → isS l k = false
  | 0, _, _, h => absurd h (Nat.not_lt_zero _)
  | n+1, k, h1, h2 => by
    unfold bN at h1
    split at h1
    · omega
    · rename_i hq
      by_cases e : k = n
      · subst e; exact Bool.eq_false_iff.mpr hq
      · exact bN_all l n k h1 (by omega)
theorem bS_top (l : List Nat) : ∀ n, bS l n = 0 ∨ (0 < bS l n ∧ isS l (bS l n - 1) = false)
  | 0 => .inl rfl
  | n+1 => by
    unfold bS
    split
    · exact bS_top l n
    · rename_i hq
      exact .inr ⟨by omega, Bool.eq_false_iff.mpr hq⟩
theorem bN_top (l : List Nat) : ∀ n, bN l n = 0 ∨ (0 < bN l n ∧ isS l (bN l n - 1) = true)
  | 0 => .inl rfl
  | n+1 => by
    unfold bN
    split
    · right; simpa using ‹_ = true›
    · exact bN_top l n
theorem cP_bS (l : List Nat) : ∀ n, cP l (bS l n) = cP l n
  | 0 => rfl
  | n+1 => by
    unfold bS
    split
    · rename_i h
      rw [cP_bS l n, cP, h]; simp
    · rfl
theorem cP_bN (l : List Nat) : ∀ n, 0 < n → isS l (n-1) = false → cP l n = cP l (bN l n) + 1
  | 0, h, _ => absurd h (Nat.lt_irrefl _)
  | 1, _, h => by
    have h' : isS l 0 = false := h
    simp [cP, bN, h']
  | n+2, _, h => by
    have h' : isS l (n+1) = false := h
    by_cases q : isS l n = true
    · have e : bN l (n+2) = n+1 := by
        rw [bN, h']; simp only [Bool.false_eq_true, if_false]; rw [bN, q]; simp
      rw [e, cP, h']; simp [q]
    · have q' : isS l n = false := by simpa using q
      have ih := cP_bN l (n+1) (by omega) q'
      have e : bN l (n+2) = bN l (n+1) := by
        rw [bN, h']; simp
      rw [e, ← ih, cP, h']; simp [q']
theorem pth_top (l : List Nat) : ∀ j, pth l j = 0 ∨ (0 < pth l j ∧ isS l (pth l j - 1) = false)
  | 0 => bS_top l _
  | _+1 => bS_top l _
theorem cP_pth (l : List Nat) : ∀ j, cP l (pth l j) = cP l l.length - j
  | 0 => by rw [pth, cP_bS]; omega
  | j+1 => by
    have ih := cP_pth l j
    rw [pth, cP_bS]
    rcases pth_top l j with e | ⟨h1, h2⟩
    · rw [e] at ih ⊢
      have : cP l 0 = 0 := rfl
      show cP l 0 = _
      omega
    · have := cP_bN l _ h1 h2
      omega
theorem pth_pos {l : List Nat} {j : Nat} (h : j < cP l l.length) : 0 < pth l j := by
  have := cP_pth l j
  rcases pth_top l j with e | ⟨h1, _⟩
  · rw [e] at this
    have : cP l 0 = 0 := rfl
    omega
  · exact h1
theorem pth_zero {l : List Nat} {j : Nat} (h : cP l l.length ≤ j) : pth l j = 0 := by
  have := cP_pth l j
  rcases pth_top l j with e | ⟨h1, h2⟩
  · exact e
  · have := cP_bN l _ h1 h2
    omega
theorem pth_lt {l : List Nat} {j : Nat} (h : 0 < pth l j) : pth l (j+1) < pth l j := by
  rcases pth_top l j with e | ⟨h1, h2⟩
  · omega
  · have h3 := bS_le l (bN l (pth l j))
    rw [pth]
    have h4 := bN_le l (pth l j)
    have h5 : bN l (pth l j) ≠ pth l j := fun e => by
      rcases bN_top l (pth l j) with q | ⟨_, q⟩
      · omega
      · rw [e, h2] at q; cases q
    omega
/-- i to j is a part -/
structure Part (l : List Nat) (i j : Nat) : Prop where
  lt : i < j
  le : j ≤ l.length
  all : ∀ k, i ≤ k → k < j → isS l k = false
  lo : i = 0 ∨ isS l (i-1) = true
  hi : j = l.length ∨ isS l j = true
theorem Part.uniq {l : List Nat} {i i' j : Nat} (p : Part l i j) (q : Part l i' j) : i = i' := by
  have a : ∀ {i i' : Nat}, Part l i j → Part l i' j → ¬ i < i' := fun {i i'} p q h => by
    rcases q.lo with e | e
    · omega
    · have := p.all (i'-1) (by omega) (by have := q.lt; omega)
      rw [e] at this; cases this
  have := a p q
  have := a q p
  omega
theorem pth_le (l : List Nat) : ∀ j, pth l j ≤ l.length
  | 0 => bS_le l _
  | j+1 => by
    have h1 := bS_le l (bN l (pth l j))
    have h2 := bN_le l (pth l j)
    have := pth_le l j
    rw [pth]; omega
theorem bS_hi (l : List Nat) (n : Nat) (hn : n = l.length ∨ isS l n = true) : bS l n = l.length ∨ isS l (bS l n) = true := by
  by_cases e : bS l n = n
  · rw [e]; exact hn
  · have := bS_le l n
    exact .inr (bS_all l n _ (Nat.le_refl _) (by omega))
theorem pth_hi (l : List Nat) : ∀ j, 0 < pth l j → pth l j = l.length ∨ isS l (pth l j) = true
  | 0, _ => bS_hi l _ (.inl rfl)
  | j+1, h => by
    rw [pth] at h ⊢
    rcases bN_top l (pth l j) with e | ⟨h1, h2⟩
    · rw [e] at h; exact absurd h (by simp [bS])
    · right
      by_cases e : bS l (bN l (pth l j)) = bN l (pth l j)
      · rcases bS_top l (bN l (pth l j)) with q | ⟨_, q⟩
        · omega
        · rw [e, h2] at q; cases q
      · have := bS_le l (bN l (pth l j))
        exact bS_all l _ _ (Nat.le_refl _) (by omega)
theorem pth_part (l : List Nat) (j : Nat) (h : 0 < pth l j) : Part l (bN l (pth l j)) (pth l j) := by
  rcases pth_top l j with e | ⟨_, h2⟩
  · omega
  · refine ⟨?_, pth_le l j, bN_all l _, ?_, pth_hi l j h⟩
    · have h4 := bN_le l (pth l j)
      have h5 : bN l (pth l j) ≠ pth l j := fun e => by
        rcases bN_top l (pth l j) with q | ⟨_, q⟩
        · omega
        · rw [e, h2] at q; cases q
      omega
    · rcases bN_top l (pth l j) with q | ⟨_, q⟩
      · exact .inl q
      · exact .inr q
theorem bS_part {l : List Nat} {i j n : Nat} (p : Part l i j) (h : j ≤ n) : j ≤ bS l n := by
  by_cases q : bS l n < j
  · have h1 := bS_all l n (j-1) (by omega) (by have := p.lt; omega)
    rw [p.all (j-1) (by have := p.lt; omega) (by have := p.lt; omega)] at h1
    cases h1
  · omega
theorem part_pth {l : List Nat} {i j : Nat} (p : Part l i j) : ∃ q, pth l q = j := by
  have key : ∀ m, (∃ q, pth l q = j) ∨ j ≤ pth l m := fun m => by
    induction m with
    | zero => exact .inr (bS_part p p.le)
    | succ m ih =>
      rcases ih with ih | ih
      · exact .inl ih
      · by_cases e : pth l m = j
        · exact .inl ⟨m, e⟩
        · right
          rw [pth]
          refine bS_part p ?_
          by_cases q : bN l (pth l m) < j
          · have hj : j < pth l m := by omega
            have := bN_all l (pth l m) j (by omega) hj
            rcases p.hi with r | r
            · have := pth_le l m; omega
            · rw [r] at this; cases this
          · omega
  rcases key (cP l l.length) with h | h
  · exact h
  · rw [pth_zero (Nat.le_refl _)] at h
    have := p.lt
    omega
theorem pth_anti {l : List Nat} {q q' : Nat} (h : q < q') (h' : 0 < pth l q) : pth l q' < pth l q := by
  induction q' with
  | zero => omega
  | succ q' ih =>
    by_cases e : q = q'
    · subst e; exact pth_lt h'
    · have := ih (by omega)
      by_cases z : 0 < pth l q'
      · have := pth_lt z; omega
      · have : pth l (q'+1) ≤ pth l q' := by
          rw [pth]
          have h3 := bS_le l (bN l (pth l q'))
          have h4 := bN_le l (pth l q')
          omega
        omega
end PLw
end
-- PL2
theorem off_PL2 : True := by (w_top off; exact trivial)
section
namespace PLw
theorem tw_all {p : Nat → Bool} : ∀ (l : List Nat) (n : Nat), n < (l.takeWhile p).length → ∃ c, l[n]? = some c ∧ p c = true
  | [], n, h => by simp at h
  | a :: r, n, h => by
    rw [List.takeWhile_cons] at h
    split at h
    · rename_i ha
      cases n with
      | zero => exact ⟨a, rfl, ha⟩
      | succ n =>
        obtain ⟨c, h1, h2⟩ := tw_all r n (by simpa using h)
        exact ⟨c, by simpa using h1, h2⟩
    · simp at h
theorem tw_stop {p : Nat → Bool} : ∀ (l : List Nat) (c : Nat), l[(l.takeWhile p).length]? = some c → p c = false
  | [], _, h => by simp at h
  | a :: r, c, h => by
    rw [List.takeWhile_cons] at h
    split at h
    · exact tw_stop r c (by simpa using h)
    · rename_i ha
      simp at h
      subst h
      simpa using ha
theorem isS_iff {l : List Nat} {k : Nat} : isS l k = true ↔ l[k]? = some 47 := by simp [isS]
theorem fNS_all {l : List Nat} {k n : Nat} (h1 : k ≤ n) (h2 : n < fNS l k) : isS l n = true := by
  unfold fNS at h2
  obtain ⟨c, e, q⟩ := tw_all (p := (· == 47)) (l.drop k) (n - k) (by omega)
  rw [List.getElem?_drop, show k + (n - k) = n by omega] at e
  rw [isS_iff, e]
  simpa using q
theorem fNS_stop {l : List Nat} {k : Nat} : isS l (fNS l k) = false := by
  cases h : isS l (fNS l k) with
  | false => rfl
  | true =>
    rw [isS_iff] at h
    unfold fNS at h
    have := tw_stop (p := (· == 47)) (l.drop k) 47 (by rw [List.getElem?_drop]; exact h)
    simp at this
theorem fSl_all {l : List Nat} {k n : Nat} (h1 : k ≤ n) (h2 : n < fSl l k) : isS l n = false := by
  unfold fSl at h2
  obtain ⟨c, e, q⟩ := tw_all (p := (· != 47)) (l.drop k) (n - k) (by omega)
  rw [List.getElem?_drop, show k + (n - k) = n by omega] at e
  cases h : isS l n with
  | false => rfl
  | true =>
    rw [isS_iff, e] at h
    simp at h q
    exact absurd h q
theorem fSl_stop {l : List Nat} {k : Nat} : l.length ≤ fSl l k ∨ isS l (fSl l k) = true := by
  by_cases h : l.length ≤ fSl l k
  · exact .inl h
  · right
    have hlt : fSl l k < l.length := by omega
    rw [isS_iff, List.getElem?_eq_getElem hlt]
    have := tw_stop (p := (· != 47)) (l.drop k) (l[fSl l k]'hlt) (by
      rw [List.getElem?_drop]
      show l[fSl l k]? = _
      rw [List.getElem?_eq_getElem hlt])
    simp at this
    rw [this]
theorem hit_part {l : List Nat} {k : Nat} (hk : k = 0 ∨ isS l (k-1) = true ∨ isS l k = true ∨ l.length ≤ k) (h : fNS l k < fSl l (fNS l k)) : Part l (fNS l k) (fSl l (fNS l k)) := by
  have hle := fSl_le h
  refine ⟨h, hle, fun n => fSl_all, ?_, ?_⟩
  · have := fNS_ge l k
    by_cases e : fNS l k = k
    · rcases hk with q | q | q | q
      · left; omega
      · right; rw [e]; exact q
      · have := fNS_stop (l := l) (k := k)
        rw [e, q] at this; cases this
      · omega
    · exact .inr (fNS_all (k := k) (by omega) (by omega))
  · rcases fSl_stop (l := l) (k := fNS l k) with q | q
    · left; omega
    · exact .inr q
theorem Part.start {l : List Nat} {i j j' : Nat} (p : Part l i j) (q : Part l i j') : j = j' := by
  have a : ∀ {j j' : Nat}, Part l i j → Part l i j' → ¬ j < j' := fun {j j'} p q h => by
    rcases p.hi with e | e
    · have := q.le; omega
    · rw [q.all j (by have := p.lt; omega) h] at e; cases e
  have := a p q
  have := a q p
  omega
theorem Part.after {l : List Nat} {i j a b : Nat} (p : Part l i j) (q : Part l a b) (h : i < a) : j < a := by
  by_cases h2 : j < a
  · exact h2
  · rcases q.lo with e | e
    · omega
    · rw [p.all (a-1) (by omega) (by omega)] at e; cases e
theorem first_hit {l : List Nat} {k a b : Nat} (q : Part l a b) (h : k ≤ a) : fNS l k ≤ a ∧ fNS l k < fSl l (fNS l k) := by
  have h1 : fNS l k ≤ a := by
    by_cases h2 : fNS l k ≤ a
    · exact h2
    · have := fNS_all h (by omega : a < fNS l k)
      rw [q.all a (Nat.le_refl _) q.lt] at this; cases this
  refine ⟨h1, ?_⟩
  by_cases h2 : fNS l k < fSl l (fNS l k)
  · exact h2
  · have h3 := fSl_ge l (fNS l k)
    have e : fSl l (fNS l k) = fNS l k := by omega
    have h5 := q.lt
    have h6 := q.le
    rcases fSl_stop (l := l) (k := fNS l k) with r | r
    · omega
    · rw [e, fNS_stop] at r; cases r
/-- what is found: the last part that ends at or ahead of col -/
noncomputable def Lst (l : List Nat) (col : Nat) : Option (Nat × Nat) → Prop
  | none => ∀ a b, Part l a b → ¬ b ≤ col
  | some (i, j) => Part l i j ∧ j ≤ col ∧ ∀ a b, Part l a b → b ≤ col → b ≤ j
noncomputable def Inv (l : List Nat) (col i : Nat) : Option (Nat × Nat) → Prop
  | none => ∀ a b, Part l a b → ¬ a < i
  | some (i0, j0) => Part l i0 j0 ∧ j0 ≤ col ∧ ∀ a b, Part l a b → a < i → b ≤ j0
theorem sr_lst {l : List Nat} {col i j : Nat} {fd r : Option (Nat × Nat)} (h : SR l col i j fd r) : Part l i j → Inv l col i fd → Lst l col r := by
  induction h with
  | @stop i j fd hn =>
    intro p v
    have hj : ¬ j ≤ col := fun q => hn ⟨by have := p.lt; omega, q⟩
    have low : ∀ a b, Part l a b → b ≤ col → a < i := fun a b q hb => by
      by_cases e : a < i
      · exact e
      · by_cases e2 : a = i
        · subst e2
          have := p.start q; omega
        · have := p.after q (by omega)
          have := q.lt; omega
    cases fd with
    | none => exact fun a b q hb => v a b q (low a b q hb)
    | some z => exact ⟨v.1, v.2.1, fun a b q hb => v.2.2 a b q (low a b q hb)⟩
  | @last i j fd h1 h2 hn =>
    intro p _
    refine ⟨p, h2, fun a b q hb => ?_⟩
    by_cases e : a < i
    · have := q.after p e; have := p.lt; omega
    · by_cases e2 : a = i
      · subst e2; have := p.start q; omega
      · have := p.after q (by omega)
        exact absurd (first_hit q (by omega)).2 hn
  | @next i j fd r h1 h2 hn _ ih =>
    intro p _
    have hk : j = 0 ∨ isS l (j-1) = true ∨ isS l j = true ∨ l.length ≤ j := by
      rcases p.hi with q | q
      · exact .inr (.inr (.inr (by omega)))
      · exact .inr (.inr (.inl q))
    refine ih (hit_part hk hn) ⟨p, h2, fun a b q ha => ?_⟩
    by_cases e : a < i
    · have := q.after p e; have := p.lt; omega
    · by_cases e2 : a = i
      · subst e2; have := p.start q; omega
      · have := p.after q (by omega)
        have := (first_hit (k := j) q (by omega)).1
        omega
theorem sres_lst {l : List Nat} {col : Nat} {fd : Option (Nat × Nat)} (h : SRes l col fd) : Lst l col fd := by
  rcases h with ⟨h1, rfl⟩ | ⟨h1, h2⟩
  · exact fun a b q _ => h1 (first_hit q (Nat.zero_le _)).2
  · refine sr_lst h2 (hit_part (.inl rfl) h1) fun a b q ha => ?_
    have := (first_hit (k := 0) q (Nat.zero_le _)).1
    omega
/-- the plain law on lists -/
theorem told_none {l : List Nat} {col : Nat} (h : Lst l col none) (q : Nat) (hq : q < cP l l.length) : ¬ pth l q ≤ col := h _ _ (pth_part l q (pth_pos hq))
theorem told_some {l : List Nat} {col i j : Nat} (h : Lst l col (some (i, j))) : ∃ q, q < cP l l.length ∧ pth l q = j ∧ j ≤ col ∧ bN l j = i ∧ ∀ q', q' < q → ¬ pth l q' ≤ col := by
  obtain ⟨p, hj, hm⟩ := h
  obtain ⟨q, rfl⟩ := part_pth p
  have h0 : 0 < pth l q := by have := p.lt; omega
  have hlt : q < cP l l.length := by
    by_cases e : q < cP l l.length
    · exact e
    · rw [pth_zero (by omega)] at h0; omega
  refine ⟨q, hlt, rfl, hj, (pth_part l q h0).uniq p, fun q' hq' hc => ?_⟩
  have h1 := pth_pos (l := l) (j := q') (by omega)
  have h2 := pth_anti hq' h1
  have h3 := hm _ _ (pth_part l q' h1) hc
  omega
end PLw
end
-- PL3
theorem off_PL3 : True := by (w_top off; exact trivial)
section
namespace PLw
theorem sgl (x : Str) : (sg x).length = x.length := by simp [Str.length]
theorem sg_inj {x y : Str} (h : sg x = sg y) : x = y := by
  cases x; cases y
  simp only [sg] at h
  rw [Array.toList_inj.mp h]
theorem bS_uniq {l : List Nat} {n m : Nat} (hm : m ≤ n) (h1 : ∀ k, m ≤ k → k < n → isS l k = true) (h2 : m = 0 ∨ isS l (m-1) = false) : bS l n = m := by
  have a := bS_le l n
  by_cases q : m < bS l n
  · rcases bS_top l n with e | ⟨_, e⟩
    · omega
    · rw [h1 _ (by omega) (by omega)] at e; cases e
  · by_cases q2 : bS l n < m
    · have := bS_all l n (m-1) (by omega) (by omega)
      rcases h2 with e | e
      · omega
      · rw [e] at this; cases this
    · omega
theorem bN_uniq {l : List Nat} {n m : Nat} (hm : m ≤ n) (h1 : ∀ k, m ≤ k → k < n → isS l k = false) (h2 : m = 0 ∨ isS l (m-1) = true) : bN l n = m := by
  have a := bN_le l n
  by_cases q : m < bN l n
  · rcases bN_top l n with e | ⟨_, e⟩
    · omega
    · rw [h1 _ (by omega) (by omega)] at e; cases e
  · by_cases q2 : bN l n < m
    · have := bN_all l n (m-1) (by omega) (by omega)
      rcases h2 with e | e
      · omega
      · rw [e] at this; cases this
    · omega
theorem isS_getD (x : Str) (k : Nat) : isS (sg x) k = (#[47] : Array Nat).contains (x.cps.getD k 0) := by
  unfold isS
  by_cases h : k < x.cps.size
  · rw [show (sg x)[k]? = some (x.cps.getD k 0) by simp [Array.getD, h]]
    rw [Bool.eq_iff_iff]; simp
  · rw [show (sg x)[k]? = none by simp; omega]
    simp [Array.getD, h]
theorem rstrip_take (x : Str) : sg (Txt.rstripChars x (Str.ofString "/")) = (sg x).take (bS (sg x) (sg x).length) := by
  unfold Txt.rstripChars
  rw [sl_str, PyProof.Rows.stripBy_eq, sgl]
  obtain ⟨_, h2, h3, h4⟩ := hi_facts (#[47] : Array Nat).contains x 0 (Nat.zero_le _)
  show sg (Builtin.Str.strSub x 0 _) = _
  rw [bS_uniq (m := stripHi (#[47] : Array Nat).contains true x 0) h2 (fun k a b => by rw [isS_getD]; exact h3 k a b) (by rw [isS_getD]; exact h4)]
  unfold sg
  rw [StrLaws.strSub_toList]
  simp [stripLo]
theorem at_iff (x : Str) (i : Nat) : StrLaws.At x ⟨#[47]⟩ x.length i ↔ isS (sg x) i = true := by
  rw [isS_iff]; exact StrLaws.subAt_one x 47 i
theorem rfind_bN (x : Str) : Txt.rfind x (Str.ofString "/") + 1 = (bN (sg x) (sg x).length : Int) := by
  rw [sl_str]
  rcases rfind_whole x ⟨#[47]⟩ with ⟨h1, h2⟩ | ⟨i, h1, h2, h3⟩
  · rw [h1, bN_uniq (m := 0) (Nat.zero_le _) (fun k _ _ => by
      cases e : isS (sg x) k with
      | false => rfl
      | true => exact absurd ((at_iff x k).mpr e) (h2 k)) (.inl rfl)]
    rfl
  · have hi := (at_iff x i).mp h2
    have hlt : i < (sg x).length := by
      rw [isS_iff] at hi
      exact (List.getElem?_eq_some_iff.mp hi).1
    rw [h1, bN_uniq (m := i+1) (by omega) (fun k a _ => by
      cases e : isS (sg x) k with
      | false => rfl
      | true => exact absurd ((at_iff x k).mpr e) (h3 k (by omega))) (.inr hi)]
    rfl
theorem slice_take (x : Str) (n : Nat) (h : n ≤ (sg x).length) : sg (Txt.slice x none (some (n : Int))) = (sg x).take n := by
  have e := eq_of_beq (slice_closes_to (x := x) (j := (n : Int)) ⟨by omega, by simpa using h⟩)
  rw [e]
  simp
theorem hd0_take (x : Str) : sg (hd0 x) = (sg x).take (bN (sg x) (sg x).length) := by
  unfold hd0
  rw [rfind_bN, slice_take _ _ (bN_le _ _)]
theorem isS_take {l : List Nat} {e k : Nat} (h : k < e) : isS (l.take e) k = isS l k := by
  unfold isS
  rw [List.getElem?_take_of_lt h]
theorem bN_take {l : List Nat} {e n : Nat} (h : n ≤ e) : bN (l.take e) n = bN l n := by
  have a := bN_le (l.take e) n
  refine (bN_uniq a (fun k h1 h2 => ?_) ?_).symm
  · rw [← isS_take (e := e) (by omega)]; exact bN_all _ _ k h1 h2
  · rcases bN_top (l.take e) n with q | ⟨q1, q2⟩
    · exact .inl q
    · right; rw [isS_take (by omega)] at q2; exact q2
theorem bS_take {l : List Nat} {e n : Nat} (h : n ≤ e) : bS (l.take e) n = bS l n := by
  have a := bS_le (l.take e) n
  refine (bS_uniq a (fun k h1 h2 => ?_) ?_).symm
  · rw [← isS_take (e := e) (by omega)]; exact bS_all _ _ k h1 h2
  · rcases bS_top (l.take e) n with q | ⟨q1, q2⟩
    · exact .inl q
    · right; rw [isS_take (by omega)] at q2; exact q2
theorem isS_all_rep {n k : Nat} (h : k < n) : isS (List.replicate n 47) k = true := by
  rw [isS_iff]; simp [h]
/-- where the generator stands after j turns -/
noncomputable def At' (l : List Nat) (x : Str) (e : Nat) : Prop := sg x = l.take e ∨ (e = 0 ∧ bS (sg x) (sg x).length = 0)
theorem split_step {l : List Nat} {x : Str} {e : Nat} (he : e ≤ l.length) (h : sg x = l.take e) : At' l (splitHead x) (bS l (bN l e)) := by
  have hl : (sg x).length = e := by rw [h, List.length_take]; omega
  have hh : sg (hd0 x) = l.take (bN l e) := by
    have b1 := bN_le l e
    rw [hd0_take, hl, h, bN_take (Nat.le_refl _), List.take_take]
    congr 1; omega
  have hhl : (sg (hd0 x)).length = bN l e := by
    have b1 := bN_le l e
    rw [hh, List.length_take]; omega
  unfold splitHead
  split
  · left
    rw [rstrip_take, hhl, hh, bS_take (Nat.le_refl _), List.take_take]
    have b1 := bS_le l (bN l e)
    congr 1; omega
  · rename_i hc
    by_cases z : bN l e = 0
    · left
      rw [hh, z]; rfl
    · have z2 : (hd0 x).length ≠ 0 := by rw [← sgl, hhl]; exact z
      have hm : hd0 x = Txt.mul (Str.ofString "/") ((hd0 x).length : Int) := by
        by_cases q : hd0 x = Txt.mul (Str.ofString "/") ((hd0 x).length : Int)
        · exact q
        · exact absurd ⟨z2, by simpa using q⟩ hc
      have hr : sg (hd0 x) = List.replicate (bN l e) 47 := by
        have q : sg (hd0 x) = sg (Txt.mul (Str.ofString "/") ((hd0 x).length : Int)) := congrArg sg hm
        rw [q, sl_str]
        unfold sg
        rw [mul_one_list, ← sgl, hhl]
        rfl
      have b0 : bS (sg (hd0 x)) (bN l e) = 0 := by
        rw [hr]
        exact bS_uniq (Nat.zero_le _) (fun k _ h => isS_all_rep h) (.inl rfl)
      right
      refine ⟨?_, by rw [hhl]; exact b0⟩
      rw [hh, bS_take (Nat.le_refl _)] at b0
      exact b0
theorem anc_at (nm : Str) : ∀ j, j ≤ cP (sg nm) (sg nm).length → At' (sg nm) (ancPath nm j) (pth (sg nm) j)
  | 0, _ => .inl (rstrip_take nm)
  | j+1, h => by
    have h0 := pth_pos (l := sg nm) (j := j) (by omega)
    rcases anc_at nm j (by omega) with e | ⟨e, _⟩
    · exact split_step (pth_le _ _) e
    · omega
theorem anc_take {nm : Str} {j : Nat} (h : j < cP (sg nm) (sg nm).length) : sg (ancPath nm j) = (sg nm).take (pth (sg nm) j) := by
  have h0 := pth_pos (l := sg nm) (j := j) (by omega)
  rcases anc_at nm j (by omega) with e | ⟨e, _⟩
  · exact e
  · omega
theorem bS_pth (l : List Nat) (j : Nat) : bS l (pth l j) = pth l j := by
  refine bS_uniq (Nat.le_refl _) (fun k h1 h2 => by omega) ?_
  rcases pth_top l j with e | ⟨_, e⟩
  · exact .inl e
  · exact .inr e
theorem anc_len {nm : Str} {j : Nat} (h : j < cP (sg nm) (sg nm).length) : (ancPath nm j).length = pth (sg nm) j := by
  have := pth_le (sg nm) j
  rw [← sgl, anc_take h, List.length_take]; omega
theorem len_rs (x : Str) : (Txt.rstripChars x (Str.ofString "/")).length ≤ x.length := len_rstripChars x _
theorem len_hd0 (x : Str) : (hd0 x).length ≤ x.length := by
  rw [← sgl, hd0_take, List.length_take, ← sgl]; omega
theorem len_sh (x : Str) : (splitHead x).length ≤ x.length := by
  unfold splitHead
  have := len_hd0 x
  have := len_rs (hd0 x)
  split <;> omega
theorem len_anc (nm : Str) : ∀ j, (ancPath nm j).length ≤ nm.length
  | 0 => len_rs nm
  | j+1 => by
    have := len_anc nm j
    have := len_sh (ancPath nm j)
    show (splitHead _).length ≤ _
    omega
theorem len_rs_eq (x : Str) : (Txt.rstripChars x (Str.ofString "/")).length = bS (sg x) (sg x).length := by
  have := bS_le (sg x) (sg x).length
  rw [← sgl, rstrip_take, List.length_take]; omega
theorem ancN_of (nm : Str) (h : nm.length ≤ 1000) : AncN nm (cP (sg nm) (sg nm).length) := by
  refine ⟨fun j hj => ?_, ?_, fun j => by have := len_anc nm j; omega, h⟩
  · unfold ancGo
    have h0 := pth_pos (l := sg nm) (j := j) hj
    rw [len_rs_eq, sgl, anc_len hj, anc_take hj, bS_take (Nat.le_refl _), bS_pth]
    simp; omega
  · unfold ancGo
    have z := pth_zero (l := sg nm) (j := cP (sg nm) (sg nm).length) (Nat.le_refl _)
    rw [len_rs_eq]
    rcases anc_at nm _ (Nat.le_refl _) with e | ⟨_, e⟩
    · rw [z] at e
      rw [e]; rfl
    · rw [e]; rfl
end PLw
end
-- PL4
theorem off_PL4 : True := by (w_top off; exact trivial)
section
namespace PLw
theorem isS_app_left {p t : List Nat} {k : Nat} (h : k < p.length) : isS (p ++ t) k = isS p k := by
  unfold isS; rw [List.getElem?_append_left h]
theorem isS_app_right {p t : List Nat} {k : Nat} : isS (p ++ t) (p.length + k) = isS t k := by
  unfold isS; rw [List.getElem?_append_right (by omega)]; congr 2; omega
theorem cP_free {l : List Nat} : ∀ n, (∀ k, k < n → isS l k = false) → cP l n = if n = 0 then 0 else 1
  | 0, _ => rfl
  | 1, h => by simp [cP, h 0 (by omega)]
  | n+2, h => by
    have ih := cP_free (n+1) (fun k hk => h k (by omega))
    rw [cP, ih, h (n+1) (by omega)]
    simp [h n (by omega)]
theorem cP_shift {p t : List Nat} (hp : 0 < p.length) (hs : isS p (p.length - 1) = true) : ∀ n, cP (p ++ t) (p.length + n) = cP (p ++ t) p.length + cP t n
  | 0 => rfl
  | n+1 => by
    have ih := cP_shift (t := t) hp hs n
    show cP (p ++ t) (p.length + n + 1) = _
    rw [cP, ih, cP, isS_app_right]
    have e : (p.length + n == 0 || isS (p ++ t) (p.length + n - 1)) = (n == 0 || isS t (n-1)) := by
      cases n with
      | zero =>
        have : isS (p ++ t) (p.length + 0 - 1) = true := by rw [Nat.add_zero, isS_app_left (by omega)]; exact hs
        rw [this]; simp
      | succ n =>
        have h1 : (p.length + (n+1) == 0) = false := by simp
        have h2 : (n + 1 == 0) = false := by simp
        rw [h1, h2, show p.length + (n+1) - 1 = p.length + n by omega, isS_app_right]; rfl
    rw [e]; omega
theorem free_isS {a : List Nat} (h : (47 : Nat) ∉ a) (k : Nat) : isS a k = false := by
  cases e : isS a k with
  | false => rfl
  | true => rw [isS_iff] at e; exact absurd (List.mem_of_getElem? e) h
theorem cP_part {a t : List Nat} (h : (47 : Nat) ∉ a) : cP (a ++ 47 :: t) (a ++ 47 :: t).length = (if a.length = 0 then 0 else 1) + cP t t.length := by
  have e : a ++ 47 :: t = (a ++ [47]) ++ t := by simp
  have hl : (a ++ [47]).length = a.length + 1 := by simp
  have h47 : isS (a ++ [47]) a.length = true := by
    have := isS_app_right (p := a) (t := [47]) (k := 0)
    exact this
  rw [e, List.length_append, cP_shift (by omega) (by rw [hl]; exact h47), hl, cP]
  have h1 : isS (a ++ [47] ++ t) a.length = true := by rw [isS_app_left (by omega)]; exact h47
  rw [h1, cP_free a.length (fun k hk => by
    rw [isS_app_left (by omega), isS_app_left hk]; exact free_isS h k)]
  simp
theorem bN_part {a t : List Nat} : bN (a ++ 47 :: t) (a ++ 47 :: t).length = a.length + 1 + bN t t.length := by
  have e : a ++ 47 :: t = (a ++ [47]) ++ t := by simp
  have hl : (a ++ [47]).length = a.length + 1 := by simp
  have h47 : isS (a ++ [47]) a.length = true := by
    have := isS_app_right (p := a) (t := [47]) (k := 0)
    exact this
  have b := bN_le t t.length
  rw [e]
  refine bN_uniq (by rw [List.length_append, hl]; omega) (fun k h1 h2 => ?_) ?_
  · rw [List.length_append, hl] at h2
    have := isS_app_right (p := a ++ [47]) (t := t) (k := k - (a.length + 1))
    rw [hl, show a.length + 1 + (k - (a.length + 1)) = k by omega] at this
    rw [this]
    exact bN_all t t.length _ (by omega) (by omega)
  · right
    rcases bN_top t t.length with q | ⟨q1, q2⟩
    · rw [q, Nat.add_zero, Nat.add_sub_cancel, isS_app_left (by omega)]; exact h47
    · have := isS_app_right (p := a ++ [47]) (t := t) (k := bN t t.length - 1)
      rw [hl, show a.length + 1 + (bN t t.length - 1) = a.length + 1 + bN t t.length - 1 by omega] at this
      rw [this]; exact q2
theorem bN_free {a : List Nat} (h : (47 : Nat) ∉ a) : bN a a.length = 0 := bN_uniq (Nat.zero_le _) (fun k _ _ => free_isS h k) (.inl rfl)
theorem cP_freeL {a : List Nat} (h : (47 : Nat) ∉ a) : cP a a.length = if a.length = 0 then 0 else 1 := cP_free _ (fun k _ => free_isS h k)
noncomputable def nE (ls : List Str) : Nat := (ls.filter (fun a => a != Str.ofString "")).length
theorem ne_em (a : Str) : (a != Str.ofString "") = decide (¬ (sg a).length = 0) := by
  rw [em_str]
  rw [Bool.eq_iff_iff]
  rw [bne_iff_ne, decide_eq_true_iff]
  refine not_congr ⟨fun e => by rw [e]; rfl, fun e => sg_inj (by rw [List.eq_nil_of_length_eq_zero e])⟩
theorem nE_cons (a : Str) (r : List Str) : nE (a :: r) = (if (sg a).length = 0 then 0 else 1) + nE r := by
  unfold nE
  rw [List.filter_cons, ne_em]
  by_cases q : (sg a).length = 0
  · rw [if_pos q, if_neg (by rw [decide_eq_true_iff]; exact fun c => c q)]; omega
  · rw [if_neg q, if_pos (by rw [decide_eq_true_iff]; exact q), List.length_cons]; omega
theorem sg_app (x y : Str) : sg (x ++ y) = sg x ++ sg y := by
  show (x.cps ++ y.cps).toList = _
  simp
theorem parts_facts : ∀ (ls : List Str), ls ≠ [] → (∀ a ∈ ls, (47 : Nat) ∉ sg a) →
    nE ls = cP (sg (Str.join ⟨#[47]⟩ ls)) (sg (Str.join ⟨#[47]⟩ ls)).length ∧
    ∃ z, ls.getLast? = some z ∧ z.length + bN (sg (Str.join ⟨#[47]⟩ ls)) (sg (Str.join ⟨#[47]⟩ ls)).length = (Str.join ⟨#[47]⟩ ls).length
  | [], h, _ => absurd rfl h
  | [a], _, h => by
    have ha := h a (.head _)
    refine ⟨?_, a, rfl, ?_⟩
    · show _ = cP (sg a) (sg a).length
      rw [cP_freeL ha]
      rw [nE_cons]; rfl
    · show a.length + bN (sg a) (sg a).length = a.length
      rw [bN_free ha]; omega
  | a :: b :: r, _, h => by
    have ha := h a (.head _)
    obtain ⟨i1, z, i2, i3⟩ := parts_facts (b :: r) (by simp) (fun c hc => h c (.tail _ hc))
    have e : sg (Str.join ⟨#[47]⟩ (a :: b :: r)) = sg a ++ 47 :: sg (Str.join ⟨#[47]⟩ (b :: r)) := by
      show sg (a ++ ⟨#[47]⟩ ++ Str.join ⟨#[47]⟩ (b :: r)) = _
      rw [sg_app, sg_app, List.append_assoc]; rfl
    refine ⟨?_, z, ?_, ?_⟩
    · rw [e, cP_part ha, ← i1, nE_cons]
    · rw [List.getLast?_cons_cons]; exact i2
    · rw [← sgl (Str.join _ (a :: b :: r)), e, bN_part, List.length_append, List.length_cons, sgl (Str.join _ (b :: r))]
      rw [sgl] at i3 ⊢
      omega
theorem split_sl (x : Str) : nE (Txt.split x (Str.ofString "/")) = cP (sg x) (sg x).length ∧ ∃ z, (Txt.split x (Str.ofString "/")).getLast? = some z ∧ z.length + bN (sg x) (sg x).length = x.length := by
  rw [sl_str]
  have h := parts_facts (Txt.split x ⟨#[47]⟩) (fun e => by have := split_pos x ⟨#[47]⟩; rw [e] at this; simp at this) (fun a ha => StrLaws.split_free x 47 a ha)
  rw [StrLaws.join_split] at h
  exact h
theorem lst_bN (x : Str) : lstOf x = (bN (sg x) (sg x).length : Int) := by
  obtain ⟨_, z, h1, h2⟩ := split_sl x
  unfold lstOf
  have hp := split_pos x (Str.ofString "/")
  rw [show (-1 + ((Txt.split x (Str.ofString "/")).length : Int)).toNat = (Txt.split x (Str.ofString "/")).length - 1 by omega]
  rw [List.getLast?_eq_getElem?] at h1
  rw [h1]
  show (x.length : Int) - (z.length : Int) = _
  omega
theorem plain_law (nm : Str) (col : Nat) (fd : Option (Nat × Nat)) (h : SRes (sg nm) col fd) : ToldOk nm (cP (sg nm) (sg nm).length) col fd := by
  have hl := sres_lst h
  cases fd with
  | none => exact fun j hj => by rw [anc_len hj]; exact told_none hl j hj
  | some z =>
    obtain ⟨i, j⟩ := z
    obtain ⟨q, h1, h2, h3, h4, h5⟩ := told_some hl
    refine ⟨q, h1, by rw [anc_len h1, h2]; exact h3, fun q' hq' => by rw [anc_len (by omega)]; exact h5 q' hq', ?_, ?_⟩
    · rw [lst_bN, sgl, anc_len h1, anc_take h1, bN_take (Nat.le_refl _), h2, h4]
    · refine sg_inj ?_
      rw [anc_take h1, h2, slice_take]
      rw [← h2]; exact pth_le _ _
theorem cP_le (l : List Nat) : ∀ n, cP l n ≤ n
  | 0 => Nat.le_refl _
  | n+1 => by
    have := cP_le l n
    rw [cP]; split <;> omega
theorem cnt_eq (nm : Str) : ((Txt.split nm (Str.ofString "/")).filter (fun a => a != Str.ofString "")).length = cP (sg nm) (sg nm).length := (split_sl nm).1
end PLw
end
-- Sieve
theorem off_Sieve : True := by (w_top off; exact trivial)
section
section
open LCg
variable {prog : Program} {w : World} {A : Around} {E : Value → Shared → Prop} {s : Shared} {h₀ : Heap} {L : Addr} {m : Str → Option Value} {env : Env}
noncomputable def NoTurn (prog : Program) (w : World) (A : Around) (h₀ : Heap) (L : Addr) (m : Str → Option Value) (env : Env) (ct : Expr) (x : Str) (scope : Scope) (cl : List (Str × Addr)) (ax : Addr) (its : Array Value) (J : List (Addr × Obj) → Shared → Prop) : Prop :=
  ∀ (i j : Nat) v I oI C oC D m₂ news (s : Shared) (E' : Value → Shared → Prop), its[i]? = some v → oI.data = .fields #[.ref ax, rawInt (j : Nat)] → NsObj oC m₂ → m₂ x = some v → Fr h₀ L s.heap m → News h₀ L s.heap ((I, oI) :: (C, oC) :: (D, lst []) :: news) → Off3 I C D news → ((@Ne Nat I C) ∧ (@Ne Nat I D) ∧ (@Ne Nat C D)) → J news s →
    wpAny (model prog w) A (isTrue ct (compEnvC scope cl C env) (eval ct (compEnvC scope cl C env))) (fun ok s' => ok = false ∧ ∃ news', Fr h₀ L s'.heap m ∧ News h₀ L s'.heap ((I, oI) :: (C, oC) :: (D, lst []) :: news') ∧ Off3 I C D news' ∧ J news' s') E' s
theorem ListComp_none {ct elt iter : Expr} {x : Str} {px : Pos} {scope : Scope} {cl : List (Str × Addr)} {pos : Pos} {Q : Value → Shared → Prop} {ax : Addr} {its : Array Value} {k : Nat} (J : List (Addr × Obj) → Shared → Prop)
    (hJ : ∀ nw s h tk, J nw s → J nw { s with heap := h, toks := tk }) (hJm : ∀ nw s, J nw s → (ax, ({ cls := .type "list", data := .seq its k } : Obj)) ∈ nw)
    (hh : A.handled = none) (hsz : its.size ≤ sizeLine)
    (hclos : closureFor scope env = pure cl) (hcell : ∀ y ∈ scope.names, y.2 ≠ .cell) (hkind : scope.kind = .function)
    (hnames : ∀ y ∈ scope.names, y.2 = .local → scope.names.lookup y.1 = some .local) (hx : scope.names.lookup x = some .local)
    (h : wpAny (model prog w) A (eval iter env) (fun xv s₁ => xv = .ref ax ∧ Fr h₀ L s₁.heap m ∧ ∃ news, News h₀ L s₁.heap news ∧ J news s₁) E s)
    (turn : NoTurn prog w A h₀ L m env ct x scope cl ax its J)
    (fin : ∀ D news s', Fr h₀ L s'.heap m → News h₀ L s'.heap ((D, lst []) :: news) → Off1 D news → J news s' → Q (.ref D) s')
    (hs : ∀ x, foldedSetIterable iter env x = pure x := by intro _; rfl) :
    wpAny (model prog w) A (eval (.ListComp elt [⟨.Name x px, iter, [ct], 0⟩] scope pos) env) Q E s := by
  rw [eval_ListComp]
  refine wpAny_comprehension_free (use := none) rfl hs hclos hkind hnames (wpAny_mono h (fun xv s₁ h₁ => ?_) fun _ _ e => e)
  obtain ⟨rfl, F₁, news, N₁, J₁⟩ := h₁
  have hax := (N₁ _ (hJm _ _ J₁)).1
  have hl : s₁.heap.IsList ax its := ⟨_, hax, rfl, _, rfl⟩
  have hlt : ax < s₁.heap.objs.size := Heap.lt_size hax
  refine wpAny_pyIter_list hl ?_
  have up : ∀ b o, s₁.heap.get? b = some o → (s₁.heap.push { cls := .type "list_iterator", data := .fields #[.ref ax, .int 0 0] }).get? b = some o := fun b o e => Heap.get?_push_of_some _ e
  have hI₀ : h₀.get? s₁.heap.objs.size = none := next_is_new F₁
  have hIL : L ≠ s₁.heap.objs.size := Nat.ne_of_lt F₁.ns.lt
  have offI : ∀ p ∈ news, p.1 ≠ s₁.heap.objs.size := fun p hp => Nat.ne_of_lt (Heap.lt_size (N₁ p hp).1)
  have hst : (s₁.heap.push { cls := .type "list_iterator", data := .fields #[.ref ax, .int 0 0] }).IsListIter s₁.heap.objs.size ax 0 ∧ (s₁.heap.push { cls := .type "list_iterator", data := .fields #[.ref ax, .int 0 0] }).IsList ax its := ⟨⟨_, Heap.get?_push_size _ rfl, rfl, rfl⟩, hl.push _⟩
  have W : Walks prog w A s₁.heap.objs.size [s₁.heap.objs.size, ax] [s₁.heap.objs.size] its.size (fun i v => its[i]? = some v) (fun i h => h.IsListIter s₁.heap.objs.size ax i ∧ h.IsList ax its) := Walks.list hh s₁.heap.objs.size ax (Nat.ne_of_lt hlt) its
  have F : Fr h₀ L (s₁.heap.push { cls := .type "list_iterator", data := .fields #[.ref ax, .int 0 0] }) m := F₁.keeps up
  have N : News h₀ L (s₁.heap.push { cls := .type "list_iterator", data := .fields #[.ref ax, .int 0 0] }) news := N₁.grown up
  have hfp : ∀ b ∈ [s₁.heap.objs.size, ax], b < (s₁.heap.push { cls := .type "list_iterator", data := .fields #[.ref ax, .int 0 0] }).objs.size := fun b hb => by
    rw [Heap.size_push]
    rcases List.mem_cons.mp hb with rfl | hb
    · exact Nat.lt_succ_self _
    · rw [List.mem_singleton.mp hb]; exact Nat.lt_succ_of_lt hlt
  have J₂ : ∀ h tk, J news { s₁ with heap := h, toks := tk } := fun h tk => hJ _ _ h tk J₁
  clear N₁ F₁ up
  generalize hH1 : s₁.heap.push { cls := .type "list_iterator", data := .fields #[.ref ax, .int 0 0] } = H1 at hst F N hfp ⊢
  generalize hII : s₁.heap.objs.size = I at hst hfp offI hI₀ hIL W ⊢
  refine wpAny_newObj_type (wpAny_newFunctionEnv hcell (by intro y hy; simp at hy) (fun h₁ hns₁ hsb₁ => ?_) hkind)
  dsimp only at hns₁ hsb₁ ⊢
  generalize hH2 : H1.push { cls := .type "list", dict := none, data := .seq ([] : List Value).toArray } = H2 at hns₁ hsb₁ ⊢
  have hC : H2.objs.size = H1.objs.size + 1 := by rw [← hH2, Heap.size_push]
  have hDC : H1.objs.size ≠ H2.objs.size := by rw [hC]; exact Nat.ne_of_lt (Nat.lt_succ_self _)
  have below : ∀ b, b < H1.objs.size → b ≠ H2.objs.size ∧ b ≠ H1.objs.size := fun b hb => ⟨by rw [hC]; exact Nat.ne_of_lt (Nat.lt_succ_of_lt hb), Nat.ne_of_lt hb⟩
  have hIf : I ∈ [I, ax] := W.sub I (List.mem_singleton.mpr rfl)
  have hIlt : I < H1.objs.size := hfp I hIf
  have old : ∀ b o, H1.get? b = some o → h₁.get? b = some o := fun b o e => hsb₁.extBut b o (below b (Heap.lt_size e)).1 (Heap.get?_push_of_some _ (hH2 ▸ Heap.get?_push_of_some _ e))
  have hacc : h₁.get? H1.objs.size = some (lst []) := hsb₁.extBut _ _ hDC (Heap.get?_push_of_some _ (hH2 ▸ Heap.get?_push_size _ rfl))
  have hDf : H1.objs.size ∉ [I, ax] := fun hm => Nat.lt_irrefl _ (hfp _ hm)
  have hCf : H2.objs.size ∉ [I, ax] := fun hm => by have := hfp _ hm; rw [hC] at this; exact Nat.lt_irrefl _ (Nat.lt_of_succ_lt this)
  have hst₁ : h₁.IsListIter I ax 0 ∧ h₁.IsList ax its := W.frame _ _ _ hst fun b _ o e => old b o e
  have fresh : ∀ a, H1.objs.size ≤ a → H1.get? a = none := fun a ha => by
    cases e : H1.get? a with
    | none => rfl
    | some o' => exact absurd (Heap.lt_size e) (Nat.not_lt.mpr ha)
  have fresh₀ : ∀ a, H1.objs.size ≤ a → h₀.get? a = none := fun a ha => by
    cases e : h₀.get? a with
    | none => rfl
    | some o' => have := F.keep a o' e; rw [fresh a ha] at this; cases this
  have hD₀ : h₀.get? H1.objs.size = none := fresh₀ _ (Nat.le_refl _)
  have hC₀ : h₀.get? H2.objs.size = none := fresh₀ _ (by rw [hC]; exact Nat.le_succ _)
  have hLlt : L < H1.objs.size := F.ns.lt
  have hDL : H1.objs.size ≠ L := Ne.symm (below L hLlt).2
  have hCL : H2.objs.size ≠ L := Ne.symm (below L hLlt).1
  have hCI : I ≠ H2.objs.size := (below I hIlt).1
  have hDI : I ≠ H1.objs.size := (below I hIlt).2
  have off₀ : Off3 I H2.objs.size H1.objs.size news := Off3.of fun p hp => ⟨offI p hp, (below _ (Heap.lt_size (N p hp).1)).1, (below _ (Heap.lt_size (N p hp).1)).2⟩
  have loop : ∀ s₃ : Shared, s₃ = { s₁ with heap := h₁, toks := s₁.toks + ([] : List (Str × Value)).length } →
      codeAny (model prog w) A (.compLoop (.ListComp elt [⟨.Name x px, iter, [ct], 0⟩] scope pos) 0 (.ref I) (.ref H1.objs.size) (compEnvC scope cl H2.objs.size env))
        (compPost (model prog w) A E none Q (.ref H1.objs.size) H2.objs.size) s₃ := by
    rintro s₃ rfl
    refine codeAny_compLoop_tests
      (fun k' s' => ∃ i m' news', i ≤ its.size ∧ k' = its.size + 1 - i ∧ (s'.heap.IsListIter I ax i ∧ s'.heap.IsList ax its) ∧ Fr h₀ L s'.heap m ∧ s'.heap.Ns H2.objs.size m' ∧ News h₀ L s'.heap ((H1.objs.size, lst []) :: news') ∧
        Off3 I H2.objs.size H1.objs.size news' ∧ J news' s') ?_ (its.size + 1)
      ⟨0, _, news, Nat.zero_le _, rfl, hst₁, F.keeps old, hns₁, fun p hp => ?_, off₀, J₂ _ _⟩
    · rintro k' s' ⟨i, m', news', hi, rfl, hst', F', hn', N', off', J'⟩
      by_cases hlt' : i < its.size
      · refine W.item i _ _ _ hlt' hst' fun v h₂ tk₂ hPv hst₂ hk₂ => ?_
        refine wpAny_assign_Name (wpAny_storeName_local (lookup_relabel_local hx) (hn'.at' fun o e => hk₂ _ o (by simpa using Ne.symm hCI) e) (fun h₃ hn₃ hs₃ => ?_) (by simp [compEnvC, relabel, hkind]))
        have hst₃ : h₃.IsListIter I ax (i + 1) ∧ h₃.IsList ax its := W.frame _ _ _ hst₂ fun b hb o e => hs₃.extBut b o (fun q => hCf (by have q' : b = H2.objs.size := q; rw [← q']; exact hb)) e
        obtain ⟨oI, heI, hoI1, hoI2⟩ := hst₃.1
        obtain ⟨oC, heC, hoC⟩ := ns_obj hn₃
        have F₃ : Fr h₀ L h₃ m := (fr_but F' hk₂ hIL hI₀).change hs₃ hCL hC₀
        have off3 := off'.mem
        have N₂ : News h₀ L h₂ ((H1.objs.size, lst []) :: news') := news_but N' hk₂ fun p hp => by
          rcases List.mem_cons.mp hp with rfl | hp
          · exact Ne.symm hDI
          · exact (off3 p hp).1
        have N₃ : News h₀ L h₃ ((I, oI) :: (H2.objs.size, oC) :: (H1.objs.size, lst []) :: news') := fun p hp => by
          rcases List.mem_cons.mp hp with rfl | hp
          · exact ⟨heI, Ne.symm hIL, hI₀⟩
          · rcases List.mem_cons.mp hp with rfl | hp
            · exact ⟨heC, hCL, hC₀⟩
            · have z := N₂ p hp
              refine ⟨hs₃.extBut _ _ ?_ z.1, z.2⟩
              rcases List.mem_cons.mp hp with rfl | hp
              · exact hDC
              · exact (off3 p hp).2.1
        refine wpAny_tests_one ?_
        refine wpAny_mono (turn i (i + 1) v I oI H2.objs.size oC H1.objs.size _ news' _ _ hPv hoI2 hoC (by simp) F₃ N₃ off' ⟨hCI, hDI, Ne.symm hDC⟩ (hJ news' s' _ _ J')) (fun ok s₄ h₄ => ?_) fun _ _ e => e
        obtain ⟨rfl, news₄, F₄, N₄, off₄, J₄⟩ := h₄
        have zI := (N₄ (I, oI) List.mem_cons_self).1
        have zC := (N₄ (H2.objs.size, oC) (List.mem_cons_of_mem _ List.mem_cons_self)).1
        have N₄' : News h₀ L s₄.heap ((H1.objs.size, lst []) :: news₄) := fun p hp => N₄ p (List.mem_cons_of_mem _ (List.mem_cons_of_mem _ hp))
        simp only [Bool.false_eq_true, if_false]
        refine ⟨its.size + 1 - (i + 1), by omega, i + 1, _, news₄, hlt', rfl, ⟨⟨oI, zI, hoI1, hoI2⟩, ⟨_, (N₄' _ (List.mem_cons_of_mem _ (hJm _ _ J₄))).1, rfl, _, rfl⟩⟩, F₄, hoC.ns zC, N₄', off₄, J₄⟩
      · obtain rfl : i = its.size := Nat.le_antisymm hi (Nat.not_lt.mp hlt')
        refine W.done _ _ _ hst' fun h₂ tk₂ hk₂ => ?_
        have off3 := off'.mem
        have F₅ := fr_but F' hk₂ hIL hI₀
        have N₅ : News h₀ L h₂ ((H1.objs.size, lst []) :: news') := news_but N' hk₂ fun p hp => by
          rcases List.mem_cons.mp hp with rfl | hp
          · exact Ne.symm hDI
          · exact (off3 p hp).1
        refine ⟨m', hn'.at' fun o e => hk₂ _ o (by simpa using Ne.symm hCI) e, fun h'' hs'' => fin _ news' _ (F₅.change hs'' hCL hC₀) (fun p hp => ?_) off'.one (hJ news' s' _ _ J')⟩
        refine ⟨hs''.extBut _ _ ?_ (N₅ p hp).1, (N₅ p hp).2⟩
        rcases List.mem_cons.mp hp with rfl | hp
        · exact hDC
        · exact (off3 p hp).2.1
    · rcases List.mem_cons.mp hp with rfl | hp
      · exact ⟨hacc, hDL, hD₀⟩
      · exact ⟨old _ _ (N p hp).1, (N p hp).2⟩
  exact codeAny_compStart_list (loop _ rfl) (W.self 0 _ _ _ hst₁ (loop _ rfl))
end
end
-- LwP
theorem off_LwP : True := by (w_top off; exact trivial)
section
noncomputable def lwObj : { o : Obj // ∀ P : Params, List.lookup 141 (Mine.hd.heap_39 P) = some o } := ⟨_, fun P => by
  have hfill : PySem.Challenge.rw_ij0072_01 = PySem.Challenge.rw_ij0072_01 → Mine.hd.heap_39 = Mine.hd.heap_39 → True := by
    k_fill
    intros; trivial
  clear hfill
  show List.lookup 141 (Mine.hd.heap_39 P) = some _
  k_is⟩
structure LwParts where
  s1 : Stmt
  s2 : Stmt
  s3 : Stmt
  s4 : Stmt
  sc : Scope
noncomputable def lwP : { q : LwParts // (match lwObj.1.data with | .func fd => (match fd.body with | .stmts [s1, s2, s3, s4] => some (⟨s1, s2, s3, s4, fd.scope⟩ : LwParts) | _ => none) | _ => none) = some q } := ⟨_, rfl⟩
structure LcParts where
  elt : Expr
  x : Str
  px : Pos
  iter : Expr
  ct : Expr
  sc : Scope
  pc : Pos
  pe : Pos
  pl : Expr
  pr : Pos
noncomputable def lcP : { q : LcParts // (match lwP.1.s4 with | .Return (some (.Compare (.ListComp elt [⟨.Name x px, iter, [ct], 0⟩] sc pc) [.Eq] [pl] pe)) pr => some (⟨elt, x, px, iter, ct, sc, pc, pe, pl, pr⟩ : LcParts) | _ => none) = some q } := ⟨_, rfl⟩
end
-- LwT
theorem off_LwT : True := by (w_top off; exact trivial)
section
local macro_rules | `(tactic| walk_at "never") => `(tactic| fail)
noncomputable abbrev lwEnv (L a : Addr) (cd : Value) (c : Addr) : Env := envX (Str.ofString "law") lwP.1.sc L a cd [(Str.ofString "prog", c)]
noncomputable def LwJ (hs₀ : List (Addr × Obj)) (s₀ : Shared) (nw : List (Addr × Obj)) (s : Shared) : Prop :=
  ∃ ps hs, nw = (119, tabObj ps) :: hs ∧ (∀ q ∈ hs₀, q ∈ hs) ∧ (∀ q ∈ hs, q.1 ≠ 119) ∧ Tab119 ps hs ∧ AllBare s.gens ∧ s.drawn = s₀.drawn ∧ s.os = s₀.os
section
open LCg
variable {w : World} {p : Program} {loose : List Str} {mean : ExcName → Option Value} {mg mb : Str → Option Value}
  {dp un : Nat} {gd : Option (List Code)} {A₀ : Around} {base h₀ : Heap} {L a c P f NL : Addr} {cd : Value} {m : Str → Option Value} {s₀ : Shared} {hs₀ : List (Addr × Obj)} {oc : Obj} {its : Array Value}
theorem law_turn (B : Below A₀ base [] h₀) (X : (hd.heap_39 w.params).In h₀) (T : Top p loose mean mg mb h₀)
  (Xb : (hd.heap_39 w.params).In base) (Tb : Top p loose mean mg mb base) (hbs : base.objs.size ≤ h₀.objs.size)
  (C1 : CodeHd base 123 119) (hP : ProgIn hs₀ P f) (hS : SearchIn hs₀ f) (hc : (c, oc) ∈ hs₀) (hcd : oc.data = .cell (some (.ref P)))
  (hits : ∀ (i : Nat) (v : Value), its[i]? = some v → ∃ (nm : Str) (t : Tok), v = Value.str nm t ∧ nm.length ≤ 1000)
  (hd : dp + 60 < recursionLimit) (hu : un + 300 < cLine) :
  NoTurn PySem.Challenge.rw_ij0072_01.row.prog w (ktrTop dp un gd (Str.ofString "law") lwP.1.sc L a cd [(Str.ofString "prog", c)] []) h₀ L m (lwEnv L a cd c) lcP.1.ct (Str.ofString "name") lcP.1.sc [(Str.ofString "prog", c)] NL its (LwJ hs₀ s₀) := by
  have hfill : PySem.Challenge.rw_ij0072_01 = PySem.Challenge.rw_ij0072_01 → Mine.hd.heap_39 = Mine.hd.heap_39 → True := by
    k_fill
    intros; trivial
  clear hfill
  intro i j v I oI C oC D m₂ news s E' hv hoI hoC hm₂ F N off hne hJ
  obtain ⟨ps, hs, rfl, sub, ne, tab, bare, hdr, hos⟩ := hJ
  obtain ⟨nm, t, rfl, hnm⟩ := hits _ _ hv
  have off' := off.mem
  have o119 := off' _ (.head _)
  have nsC : s.heap.Ns C m₂ := hoC.ns (N _ (.tail _ (.head _))).1
  dsimp only [lcP]
  iterate 7 walk1
  refine lcf_cell N ?h1 (.tail _ (.tail _ (.tail _ (.tail _ (sub _ hc))))) hcd ?_ ?h2 ?h3
  case h1 => rfl
  case h2 => rfl
  case h3 => rfl
  walk1
  refine LCgL.ld_own N (.tail _ (.head _)) hoC hm₂ ?_
  iterate 2 walk1
  have N1 : News h₀ L s.heap ((119, tabObj ps) :: ((I, oI) :: (C, oC) :: (D, lst []) :: hs)) := fun q hq => by
    rcases List.mem_cons.mp hq with rfl | hq
    · exact N _ (.tail _ (.tail _ (.tail _ (.head _))))
    rcases List.mem_cons.mp hq with rfl | hq
    · exact N _ (.head _)
    rcases List.mem_cons.mp hq with rfl | hq
    · exact N _ (.tail _ (.head _))
    rcases List.mem_cons.mp hq with rfl | hq
    · exact N _ (.tail _ (.tail _ (.head _)))
    · exact N _ (.tail _ (.tail _ (.tail _ (.tail _ hq))))
  have sub1 : ∀ q ∈ hs, q ∈ ((I, oI) :: (C, oC) :: (D, lst []) :: hs) := fun q hq => .tail _ (.tail _ (.tail _ hq))
  refine law_right_spec B F X N1 T rfl Xb Tb hbs C1 (fun q hq => ?_) (tab.mono sub1) (hP.mono fun q hq => sub1 _ (sub q hq)) (hS.mono fun q hq => sub1 _ (sub q hq)) (PLw.ancN_of nm hnm) ?_ (PLw.cnt_eq nm) (PLw.plain_law nm) bare hd hu (fun ps' hs' h' tk' gens' F' N' sub' ne' tab' bare' => ?_)
  · rcases List.mem_cons.mp hq with rfl | hq
    · exact fun z => o119.1 z.symm
    rcases List.mem_cons.mp hq with rfl | hq
    · exact fun z => o119.2.1 z.symm
    rcases List.mem_cons.mp hq with rfl | hq
    · exact fun z => o119.2.2 z.symm
    · exact ne q hq
  · refine Nat.le_trans (PLw.cP_le _ _) ?_
    rw [PLw.sgl]
    exact hnm
  · walk1
    have hmI : (I, oI) ∈ hs' := sub' _ (.head _)
    have hmC : (C, oC) ∈ hs' := sub' _ (.tail _ (.head _))
    have hmD : (D, lst []) ∈ hs' := sub' _ (.tail _ (.tail _ (.head _)))
    refine ⟨rfl, (119, tabObj ps') :: hs'.filter (fun q => decide (q.1 ≠ I) && decide (q.1 ≠ C) && decide (q.1 ≠ D)), F', fun q hq => ?_, Off3.of fun q hq => ?_, ps', _, rfl, fun q hq => ?_, fun q hq => ne' q (List.mem_filter.mp hq).1, tab_filter tab' ?_, bare', hdr, hos⟩
    · rcases List.mem_cons.mp hq with rfl | hq
      · exact N' _ (.tail _ hmI)
      rcases List.mem_cons.mp hq with rfl | hq
      · exact N' _ (.tail _ hmC)
      rcases List.mem_cons.mp hq with rfl | hq
      · exact N' _ (.tail _ hmD)
      rcases List.mem_cons.mp hq with rfl | hq
      · exact N' _ (.head _)
      · exact N' _ (.tail _ (List.mem_filter.mp hq).1)
    · rcases List.mem_cons.mp hq with rfl | hq
      · exact o119
      · have := (List.mem_filter.mp hq).2
        simp only [Bool.and_eq_true, decide_eq_true_eq] at this
        exact ⟨this.1.1, this.1.2, this.2⟩
    · refine List.mem_filter.mpr ⟨sub' _ (sub1 _ (sub q hq)), ?_⟩
      have z := off' q (.tail _ (sub q hq))
      simp only [Bool.and_eq_true, decide_eq_true_eq]
      exact ⟨⟨z.1, z.2.1⟩, z.2.2⟩
    · rintro cc q ⟨o, vs, tt, hm, hd1, hd2⟩
      refine ⟨o, vs, tt, List.mem_filter.mpr ⟨hm, ?_⟩, hd1, hd2⟩
      have gc := (N' _ (.tail _ hm)).1
      simp only [Bool.and_eq_true, decide_eq_true_eq]
      refine ⟨⟨fun z => ?_, fun z => ?_⟩, fun z => ?_⟩
      · have z' : cc = I := z
        have gI := (N' _ (.tail _ hmI)).1
        rw [z', gI] at gc
        have e := congrArg Obj.data (Option.some.inj gc)
        rw [hoI, hd1] at e
        injection e with e
        subst e
        injection hd2 with hd2
        cases hd2
      · have z' : cc = C := z
        have gI := (N' _ (.tail _ hmC)).1
        rw [z', gI] at gc
        have e := congrArg Obj.data (Option.some.inj gc)
        obtain ⟨es, ep, he, _⟩ := hoC
        rw [he, hd1] at e
        cases e
      · have z' : cc = D := z
        have gI := (N' _ (.tail _ hmD)).1
        rw [z', gI] at gc
        have e := congrArg Obj.data (Option.some.inj gc)
        rw [hd1] at e
        cases e
end
end
-- LwS
theorem off_LwS : True := by (w_top off; exact trivial)
section
local macro_rules | `(tactic| walk_at "never") => `(tactic| fail)
local macro_rules | `(tactic| walk_at "never") => `(tactic| fail)
noncomputable def sgnOf (k : Int) : Str := if k.fmod 4 = 0 then Str.ofString "/" else if k.fmod 4 = 1 then Str.ofString "a" else if k.fmod 4 = 2 then Str.ofString "." else ⟨#[((k.fdiv 4).fmod 55296).toNat]⟩
theorem sgn_len (k : Int) : (sgnOf k).length = 1 := by
  unfold sgnOf
  split
  · decide +kernel
  · split
    · decide +kernel
    · split
      · decide +kernel
      · rfl
theorem sgn0 {k : Int} (h : k.fmod 4 = 0) : sgnOf k = Str.ofString "/" := if_pos h
theorem sgn1 {k : Int} (h : k.fmod 4 = 1) : sgnOf k = Str.ofString "a" := by unfold sgnOf; rw [h]; rfl
theorem sgn2 {k : Int} (h : k.fmod 4 = 2) : sgnOf k = Str.ofString "." := by unfold sgnOf; rw [h]; rfl
theorem sgn3 {k : Int} (h : k.fmod 4 = 3) : sgnOf k = ⟨#[((k.fdiv 4).fmod 55296).toNat]⟩ := by unfold sgnOf; rw [h]; rfl

local macro_rules | `(tactic| k_steps) => `(tactic| repeat' ((fail_if_success (with_reducible show wpAny _ _ (call (Value.ref 131) _) _ _ _)); first | (k_unfold; (try dsimp only)) | (k_end; wrow_close) | walk1 | (dsimp only; walk1) | (leave1; walk_say "STEP leave1"; try dsimp only) | fail "no step"))
local macro_rules | `(tactic| walk_at "call builtin:str.join") => `(tactic| ((with_reducible rename CarriedAll _ (List.map _ _) => ktC); refine KT.join_1 (g := sgnOf) (by exact News.isList (by k_asm) (by k_mem)) ktC (fun a _ => sgn_len a) (by omega) ?_; intro tj kj lj; try dsimp only))
section
open LCg
variable {w : World} {p : Program} {loose : List Str} {mean : ExcName → Option Value} {mg mb : Str → Option Value}
  {dp un : Nat} {gd : Option (List Code)} {A₀ : Around} {base h₀ : Heap} {L a c D : Addr} {cd : Value} {m : Str → Option Value} {s : Shared} {Q : Flow → Shared → Prop} {E : Value → Shared → Prop} {oc : Obj} {v₀ : Option Value} {ys : List Value} {ns : List Int}
theorem prog_off {tl : List (Addr × Obj)} {r f c : Addr} {w : Obj} {v : Option Value} (hw : w.data = .cell v) (hu : ∀ o, (c, o) ∈ tl → o = w) (h : ProgIn tl r f) : ProgIn (tl.filter (fun q => decide (q.1 ≠ c))) r f := by
  have key : ∀ a o, (a, o) ∈ tl → (∀ v, o.data ≠ .cell v) → (a, o) ∈ tl.filter (fun q => decide (q.1 ≠ c)) := fun a o hm hn => List.mem_filter.mpr ⟨hm, decide_eq_true fun z => by
    have z' : a = c := z
    subst z'
    have e := hu o hm
    subst e
    exact hn v hw⟩
  obtain ⟨d, fd, hsh, tk, n, a1, a2, dT, tz, doc, pm, cc, ctv, s1, ⟨o, vs, t, c1, c2, c3⟩, s3⟩ := h
  exact ⟨d, fd, hsh, tk, n, key _ _ a1 (fun _ => nofun), key _ _ a2 (fun _ => nofun), dT, tz, doc, pm, cc, ctv, key _ _ s1 (fun _ => nofun), ⟨o, vs, t, key _ _ c1 (fun _ => by rw [c2]; exact nofun), c2, c3⟩, key _ _ s3 (fun _ => nofun)⟩
theorem law_s2 (B : Below A₀ base [] h₀) (F : Fr h₀ L s.heap m) (X : (hd.heap_39 w.params).In h₀) (N : News h₀ L s.heap [(D, lst ys), (c, oc), (119, tabObj #[]), (126, tabObj #[])]) (T : Top p loose mean mg mb h₀)
  (C2 : CodeHd base 130 126) (hm : m (Str.ofString "signs") = some (.ref D)) (hC : CarriedAll ys (ns.map fun k => PyData.str (sgnOf k))) (hn : ns.length ≤ 8) (hcd : oc.data = .cell v₀) (hc1 : @LT.lt Nat _ 119 c) (hc2 : @LT.lt Nat _ 126 c) (hD2 : @Ne Nat D 126)
  (hd : dp + 60 < recursionLimit) (hu : un + 300 < cLine)
  (hret : ∀ own t r f ps' oc' hs' h' tk', own.length ≤ 8 → Fr h₀ L h' (fun y => if y = Str.ofString "own" then some (.str own t) else m y) → News h₀ L h' ((c, oc') :: (119, tabObj #[]) :: (126, tabObj ps') :: hs') → oc'.data = .cell (some (.ref r)) → (∀ q ∈ hs', @LT.lt Nat _ 126 q.1) → (∀ q ∈ hs', q.1 ≠ c) → ProgIn hs' r f → Q .next { s with heap := h', toks := tk' }) :
  wpAny (model PySem.Challenge.rw_ij0072_01.row.prog w) (ktrTop dp un gd (Str.ofString "law") lwP.1.sc L a cd [(Str.ofString "prog", c)] []) (exec lwP.1.s2 (lwEnv L a cd c)) Q E s := by
  have hfill : PySem.Challenge.rw_ij0072_01 = PySem.Challenge.rw_ij0072_01 → Mine.hd.heap_39 = Mine.hd.heap_39 → True := by
    k_fill
    intros; trivial
  clear hfill
  dsimp only [lwP]
  k_steps
  refine nameX_L F hm ?_ ?h1 ?h2
  case h1 => rfl
  case h2 => rfl
  k_steps
  rename_i tj kj lj
  refine law_prog_spec (hs := [(D, lst ys), (c, oc), (119, tabObj #[])]) B F X (fun q hq => N q ?_) T rfl C2 (fun q hq => ?_) (by omega) (by omega) (fun r f ps' tl h' tk' F2 N2 htl hP => ?_)
  · simp only [List.mem_cons, List.not_mem_nil, or_false] at hq ⊢
    rcases hq with h | h | h | h
    · exact .inr (.inr (.inr h))
    · exact .inl h
    · exact .inr (.inl h)
    · exact .inr (.inr (.inl h))
  · simp only [List.mem_cons, List.not_mem_nil, or_false] at hq
    rcases hq with rfl | rfl | rfl
    · exact hD2
    · exact Nat.ne_of_gt hc2
    · decide
  have hP' := prog_off hcd (fun o ho => by
    have e1 := (N2 (c, o) (.tail _ (List.mem_append_left _ ho))).1
    have e2 := (N2 (c, oc) (.tail _ (List.mem_append_right _ (.tail _ (.head _))))).1
    exact Option.some.inj (e1.symm.trans e2)) hP
  have hl1 : ∀ q ∈ tl.filter (fun q => decide (q.1 ≠ c)), @LT.lt Nat _ 126 q.1 := fun q hq => htl q (List.mem_filter.mp hq).1
  have hl2 : ∀ q ∈ tl.filter (fun q => decide (q.1 ≠ c)), q.1 ≠ c := fun q hq => of_decide_eq_true (List.mem_filter.mp hq).2
  have N3 : News h₀ L h' ((c, oc) :: (119, tabObj #[]) :: (126, tabObj ps') :: tl.filter (fun q => decide (q.1 ≠ c))) := fun q hq => by
    rcases List.mem_cons.mp hq with rfl | hq
    · exact N2 _ (.tail _ (List.mem_append_right _ (.tail _ (.head _))))
    rcases List.mem_cons.mp hq with rfl | hq
    · exact N2 _ (.tail _ (List.mem_append_right _ (.tail _ (.tail _ (.head _)))))
    rcases List.mem_cons.mp hq with rfl | hq
    · exact N2 _ (.head _)
    · exact N2 _ (.tail _ (List.mem_append_left _ (List.mem_filter.mp hq).1))
  generalize tl.filter (fun q => decide (q.1 ≠ c)) = hs' at hP' hl1 hl2 N3
  clear N2 N hP htl tl
  k_steps
  rename_i F5 N5
  have N6 := news_tail N5
  clear N5
  refine storeX_C (c := c) (o := oc) (v₀ := v₀) F5 N6 ?g1 (UpdF.head fun q hq => ?_) hcd (fun h7 oc' F7 N7 hd7 => ?_) ?g2 ?g3
  case g1 => rfl
  case g2 => rfl
  case g3 => rfl
  · rcases List.mem_cons.mp hq with rfl | hq
    · exact Nat.ne_of_lt hc1
    rcases List.mem_cons.mp hq with rfl | hq
    · exact Nat.ne_of_lt hc2
    · exact hl2 q hq
  · k_steps
    exact hret _ _ r f ps' oc' hs' h7 _ (by rw [lj]; exact hn) F7 N7 hd7 hl1 hl2 hP'
end
end
-- LwN
theorem off_LwN : True := by (w_top off; exact trivial)
section
local macro_rules | `(tactic| walk_at "eval Name") => `(tactic| (refine nameX_L (x := Str.ofString "own") (by k_asm) (by assumption) ?_ (by rfl) (by rfl)))
section
open LCg
variable {w : World} {p : Program} {loose : List Str} {mean : ExcName → Option Value} {mg mb : Str → Option Value}
  {dp un : Nat} {gd : Option (List Code)} {A₀ : Around} {base h₀ : Heap} {L a c D : Addr} {cd : Value} {m : Str → Option Value} {s : Shared} {Q : Flow → Shared → Prop} {E : Value → Shared → Prop} {oc : Obj} {ps' : Array Value} {hs : List (Addr × Obj)} {own : Str} {t : Tok}
theorem law_s3 (B : Below A₀ base [] h₀) (F : Fr h₀ L s.heap m) (X : (hd.heap_39 w.params).In h₀) (N : News h₀ L s.heap ((c, oc) :: (119, tabObj #[]) :: (126, tabObj ps') :: hs)) (T : Top p loose mean mg mb h₀)
  (hm : m (Str.ofString "own") = some (.str own t)) (hn : own.length ≤ 8)
  (hd : dp + 60 < recursionLimit) (hu : un + 300 < cLine)
  (hret : ∀ NL (its : Array Value) k h' tk', its.size = 4 → (∀ (i : Nat) (v : Value), its[i]? = some v → ∃ (nm : Str) (t : Tok), v = Value.str nm t ∧ nm.length ≤ 1000) → (@Ne Nat NL 119) → Fr h₀ L h' (fun y => if y = Str.ofString "names" then some (.ref NL) else m y) → News h₀ L h' ((NL, ({ cls := .type "list", data := .seq its k } : Obj)) :: (c, oc) :: (119, tabObj #[]) :: (126, tabObj ps') :: hs) → Q .next { s with heap := h', toks := tk' }) :
  wpAny (model PySem.Challenge.rw_ij0072_01.row.prog w) (ktrTop dp un gd (Str.ofString "law") lwP.1.sc L a cd [(Str.ofString "prog", c)] []) (exec lwP.1.s3 (lwEnv L a cd c)) Q E s := by
  have hfill : PySem.Challenge.rw_ij0072_01 = PySem.Challenge.rw_ij0072_01 → Mine.hd.heap_39 = Mine.hd.heap_39 → True := by
    k_fill
    intros; trivial
  clear hfill
  dsimp only [lwP]
  k_steps
  rename_i t3 k3 a3 t2 k2 a2 t1 k1 a1 t0 k0 a0 l h1 l1 h8 F8 N8
  have z1 : (Str.ofString "//b/").length = 4 := by decide +kernel
  have z2 : (Str.ofString "/c.d//").length = 6 := by decide +kernel
  rw [z1] at a3
  rw [z2] at a2 a0
  refine hret _ _ _ h8 _ rfl (fun i v hv => ?_) (Nat.ne_of_gt l1.2.1) F8 N8
  rcases i with _ | _ | _ | _ | i
  · simp at hv
    subst hv
    exact ⟨_, _, rfl, by omega⟩
  · simp at hv
    subst hv
    exact ⟨_, _, rfl, by omega⟩
  · simp at hv
    subst hv
    exact ⟨_, _, rfl, by omega⟩
  · simp at hv
    subst hv
    exact ⟨_, _, rfl, by omega⟩
  · simp at hv
end
end
-- LwR
theorem off_LwR : True := by (w_top off; exact trivial)
section
local macro_rules | `(tactic| walk_at "never") => `(tactic| fail)
local macro_rules | `(tactic| walk_at "never") => `(tactic| fail)
section
open LCg
variable {w : World} {p : Program} {loose : List Str} {mean : ExcName → Option Value} {mg mb : Str → Option Value}
  {dp un : Nat} {gd : Option (List Code)} {A₀ : Around} {base h₀ : Heap} {L a c P f NL : Addr} {cd : Value} {m : Str → Option Value} {s : Shared} {Q : Flow → Shared → Prop} {E : Value → Shared → Prop} {oc : Obj} {ps' its : Array Value} {k : Nat} {hs : List (Addr × Obj)}
theorem law_s4 (B : Below A₀ base [] h₀) (F : Fr h₀ L s.heap m) (X : (hd.heap_39 w.params).In h₀) (N : News h₀ L s.heap ((NL, ({ cls := .type "list", data := .seq its k } : Obj)) :: (c, oc) :: (119, tabObj #[]) :: (126, tabObj ps') :: hs)) (T : Top p loose mean mg mb h₀)
  (Xb : (hd.heap_39 w.params).In base) (Tb : Top p loose mean mg mb base) (hbs : base.objs.size ≤ h₀.objs.size) (C1 : CodeHd base 123 119)
  (hm : m (Str.ofString "names") = some (.ref NL)) (hits : ∀ (i : Nat) (v : Value), its[i]? = some v → ∃ (nm : Str) (t : Tok), v = Value.str nm t ∧ nm.length ≤ 1000) (hsz : its.size = 4)
  (hcd : oc.data = .cell (some (.ref P))) (hP : ProgIn hs P f) (hn1 : @Ne Nat NL 119) (hn2 : @Ne Nat c 119) (hn3 : ∀ q ∈ hs, q.1 ≠ 119) (hb : AllBare s.gens)
  (hd : dp + 60 < recursionLimit) (hu : un + 300 < cLine)
  (hret : ∀ ps1 hs1 s', Fr h₀ L s'.heap m → News h₀ L s'.heap ((119, tabObj ps1) :: hs1) → (126, tabObj ps') ∈ hs1 → AllBare s'.gens → s'.drawn = s.drawn → s'.os = s.os → Q (.ret (.bool true)) s') :
  wpAny (model PySem.Challenge.rw_ij0072_01.row.prog w) (ktrTop dp un gd (Str.ofString "law") lwP.1.sc L a cd [(Str.ofString "prog", c)] []) (exec lwP.1.s4 (lwEnv L a cd c)) Q E s := by
  have hfill : PySem.Challenge.rw_ij0072_01 = PySem.Challenge.rw_ij0072_01 → Mine.hd.heap_39 = Mine.hd.heap_39 → True := by
    k_fill
    intros; trivial
  clear hfill
  dsimp only [lwP]
  iterate 2 walk1
  have hcN : ∀ q ∈ (NL, ({ cls := .type "list", data := .seq its k } : Obj)) :: (c, oc) :: (126, tabObj ps') :: hs, q.1 ≠ 119 := fun q hq => by
    rcases List.mem_cons.mp hq with rfl | hq
    · exact hn1
    rcases List.mem_cons.mp hq with rfl | hq
    · exact hn2
    rcases List.mem_cons.mp hq with rfl | hq
    · show (126 : Nat) ≠ 119
      decide
    · exact hn3 q hq
  have hP0 : ProgIn ((NL, ({ cls := .type "list", data := .seq its k } : Obj)) :: (c, oc) :: (126, tabObj ps') :: hs) P f := hP.mono fun q hq => .tail _ (.tail _ (.tail _ hq))
  have hS0 : SearchIn ((NL, ({ cls := .type "list", data := .seq its k } : Obj)) :: (c, oc) :: (126, tabObj ps') :: hs) f := let ⟨_, _, _, _, _, _, _, z⟩ := hP0; z
  have turn := law_turn (dp := dp) (un := un) (gd := gd) (L := L) (a := a) (cd := cd) (m := m) (NL := NL) (s₀ := s) (its := its) B X T Xb Tb hbs C1 hP0 hS0 (.tail _ (.head _)) hcd hits hd hu
  refine ListComp_none (h₀ := h₀) (L := L) (m := m) (ax := NL) (its := its) (k := k) (LwJ ((NL, ({ cls := .type "list", data := .seq its k } : Obj)) :: (c, oc) :: (126, tabObj ps') :: hs) s) (fun nw s h tk hj => ?_) (fun nw s hj => ?_) rfl (by rw [hsz]; decide) ?_ ?_ rfl ?_ ?_ ?_ turn (fun D nw s1 F1 N1 off1 J1 => ?_) (by intro _; rfl)
  · obtain ⟨ps1, hs1, rfl, h⟩ := hj
    exact ⟨ps1, hs1, rfl, h⟩
  · obtain ⟨ps1, hs1, rfl, sub, _⟩ := hj
    exact .tail _ (sub _ (.head _))
  · with_unfolding_all rfl
  · decide
  · decide
  · rfl
  · refine nameX_L F hm ⟨rfl, F, (119, tabObj #[]) :: (NL, ({ cls := .type "list", data := .seq its k } : Obj)) :: (c, oc) :: (126, tabObj ps') :: hs, fun q hq => ?_, #[], _, rfl, fun q hq => hq, hcN, .inl rfl, hb, rfl, rfl⟩ ?g1 ?g2
    case g1 => rfl
    case g2 => rfl
    rcases List.mem_cons.mp hq with rfl | hq
    · exact N _ (.tail _ (.tail _ (.head _)))
    rcases List.mem_cons.mp hq with rfl | hq
    · exact N _ (.head _)
    rcases List.mem_cons.mp hq with rfl | hq
    · exact N _ (.tail _ (.head _))
    · exact N _ (.tail _ (.tail _ (.tail _ hq)))
  · obtain ⟨ps1, hs1, rfl, sub, ne, tab, bare, hdr, hos⟩ := J1
    have m126 : (126, tabObj ps') ∈ hs1 := sub _ (.tail _ (.tail _ (.head _)))
    clear sub turn N hits hcN hP0 hS0
    k_steps
    rename_i l9 h9 F9 N9 l1
    exact hret ps1 hs1 _ F9 (news_tail (news_tail N9)) m126 bare hdr hos
end
end
-- LawA
theorem off_LawA : True := by (w_top off; exact trivial)
section
local macro_rules | `(tactic| walk_at "never") => `(tactic| fail)
local macro_rules | `(tactic| walk_at "never") => `(tactic| fail)
local macro_rules | `(tactic| walk_at "never") => `(tactic| fail)
local macro_rules | `(tactic| walk_at "CompEnd") => `(tactic| (refine LCg.CompEnd.intro (by assumption) (by assumption) _ (by kcf_all) (by first | assumption | (simp only [LCg.Off3, and_true]; done) | (simp only [LCg.Off3, and_true]; assumption)) (by first | lcg_src | assumption) (kct_el (by first | exact sgn0 (by assumption) | exact sgn1 (by assumption) | exact sgn2 (by assumption) | exact sgn3 (by assumption)) rfl rfl)))
local macro_rules | `(tactic| k_steps) => `(tactic| repeat' ((fail_if_success (with_reducible show wpAny _ _ (exec (Stmt.Assign [Expr.Tuple _ _ _] _ _) _) _ _ _)); first | (k_unfold; (try dsimp only)) | (k_end; wrow_close) | walk1 | (dsimp only; walk1) | (leave1; walk_say "STEP leave1"; try dsimp only) | fail "no step"))
local macro_rules | `(tactic| kn_posts) => `(tactic| refine kn_postG (by assumption) (fun _ _ => rfl) ?_)
local macro_rules | `(tactic| walk_at "CompSrc") => `(tactic| (k_dflt (refine LCg.CompSrc.ledger (by rfl) (by k_asm) (by k_asm) (by k_mem) (by kcf_size) ?_; intro g'; (refine' kct_list sgnOf (by assumption) (fun k' t' I' oI' C' oC' D' m' ys' h' tk' E' hk' hC' hx' F' N' off' ne' => ?_) ?_); (all_goals (try (simp only [LCg.Off3, and_true] at off'))); (all_goals (try ((show KPfMark → _); intro hMark'))); kcf_last)))
theorem law_holds : PySem.Challenge.rw_ij0072_01.Holds := hd (by
  k_go0
  all_goals try k_fold
  k_steps
  rename_i cw rt X0 X T K C1 l0 D1 ws h1 F1 nD hI8 hC hL l1 g ktC hlen hL8 D h tk F N o1
  dsimp only at C1 codeHd
  refine law_s2 (ns := List.take 8 _) (v₀ := _) K F X (fun q hq => N q ?_) T codeHd rfl ktC ?_ rt ?_ ?_ ?_ ?_ ?_ (fun own t r f ps' oc' hs' h' tk' hown F2 N2 hcd2 hl1 hl2 hP2 => ?_)
  · simp only [List.mem_cons, List.not_mem_nil, or_false] at hq ⊢
    rcases hq with h | h | h | h
    · exact .inl h
    · exact .inr (.inr (.inl h))
    · exact .inr (.inr (.inr (.inl h)))
    · exact .inr (.inr (.inr (.inr h)))
  · rw [List.length_take]
    omega
  · exact Nat.lt_succ_of_lt l0.1
  · exact Nat.lt_succ_of_lt l0.2
  · exact Ne.symm o1.2.2.2
  · decide
  · decide
  dsimp only
  refine wpAny_execs_cons (law_s3 K F2 X N2 T rfl hown (by decide) (by decide) (fun NL its k h3 tk3 hsz hits hn1 F3 N3 => ?_))
  dsimp only
  refine wpAny_execs_cons (law_s4 K F3 X N3 T X T (Nat.le_refl _) C1 rfl hits hsz hcd2 hP2 hn1 (Nat.ne_of_gt (Nat.lt_succ_of_lt l0.1)) (fun q hq => Nat.ne_of_gt (Nat.lt_trans (by decide) (hl1 q hq))) ?_ (by decide) (by decide) (fun ps1 hs1 s' F4 N4 m126 bare hdr hos => ?_))
  · exact AllBare.of_eq (by assumption)
  refine ⟨?_, bare, ⟨_, (N4 _ (.head _)).1⟩, ⟨_, (N4 _ (.tail _ m126)).1⟩, trivial⟩
  dsimp only
  refine ⟨.inl ⟨.bool true, .bool true, [], rfl, fun _ => rfl, .bool _, ?_, fun _ => ⟨.nil, fun a ha => nomatch ha⟩⟩, fun b o e => F4.keep b o e, hos, rfl⟩
  with_unfolding_all rfl)
end
end Mine
theorem PySem.Challenge.cw_ij0072_01_holds : PySem.Challenge.rw_ij0072_01.Holds :=
  Mine.law_holds

import PyProof.Rows.All
import Wide.All
import OpenK.AllK
import Wide.FinOn
import Lean
import PySem.Challenge.RW_mr0022_01
open PySem PySem.W PyProof.Rows PySem.Calls
set_option Elab.async false
set_option maxRecDepth 100000
namespace Mine
set_option maxRecDepth 100000 in
set_option maxHeartbeats 8000000 in
open_top hd for PySem.Challenge.rw_mr0022_01
end Mine

namespace Mine

theorem slot_fn_setattr : Slot "function" "__setattr__" "object.__setattr__" :=
  .of (owner := "object") (n := "__setattr__") (by rw [typeLookup_type, builtinLookup_eq_fast]; kernel_rfl) (by decide +kernel) (by decide +kernel) (by decide +kernel) (by decide +kernel) (by rw [isSubtype_type]; kernel_rfl)
theorem slot_fn_get : Slot "function" "__getattribute__" "object.__getattribute__" :=
  .of (owner := "object") (n := "__getattribute__") (by rw [typeLookup_type, builtinLookup_eq_fast]; kernel_rfl) (by decide +kernel) (by decide +kernel) (by decide +kernel) (by decide +kernel) (by rw [isSubtype_type]; kernel_rfl)
theorem lk_fn_getattr : typeLookup (.type "function") "__getattr__" = pure none := by rw [typeLookup_type, builtinLookup_eq_fast]; kernel_rfl
theorem lk_fn_span : typeLookup (.type "function") "span" = pure none := by rw [typeLookup_type, builtinLookup_eq_fast]; kernel_rfl
theorem lk_fn_search : typeLookup (.type "function") "search" = pure none := by rw [typeLookup_type, builtinLookup_eq_fast]; kernel_rfl
theorem lk_fn_bool : typeLookup (.type "function") "__bool__" = pure none := by rw [typeLookup_type, builtinLookup_eq_fast]; kernel_rfl
theorem lk_fn_len : typeLookup (.type "function") "__len__" = pure none := by rw [typeLookup_type, builtinLookup_eq_fast]; kernel_rfl
theorem mro_fn : mroOf (.type "function") = pure [.type "function", .type "object"] := by kernel_rfl
theorem own_fn_setattr : classOwn (.type "function") "__setattr__" = pure none := by kernel_rfl
theorem passes_fn (self : Value) : refuseLoop self "__setattr__" [.type "function", .type "object"] = pure () := by
  have h1 : refuseLoop self "__setattr__" [.type "object"] = pure () := PySem.F.store_object.passes self
  have h2 : refuseLoop self "__setattr__" [.type "function", .type "object"] = refuseLoop self "__setattr__" [.type "object"] := by
    unfold refuseLoop
    rw [List.forIn_cons]
    kernel_rfl
  rw [h2, h1]
theorem hasDict_fn : typeHasDict (.type "function") = true := by decide +kernel
theorem fin_fn : finalisedInACycleAlone "function" = false := by decide +kernel

/-- a name's dict with one entry -/
abbrev oneDict (hsh : Int) (name : Str) (tk : Tok) (v : Value) : Obj := dictOf [⟨hsh, .str name tk, v⟩] 1

section
variable {prog : Program} {w : World} {A : Around} {E : Value → Shared → Prop} {s : Shared}

open Builtin Builtin.ObjectAttr in
theorem fn_osa {f : Addr} {fd : FuncData} {sl : Array (Option Value)} {name : Str} {tk : Tok} {v : Value} {R : Result → Shared → Prop}
    (ho : s.heap.get? f = some ⟨.type "function", none, .func fd, sl⟩) (hl : typeLookup (.type "function") name = pure none)
    (h : ∀ h' tk' hsh tk₂, h'.get? f = some ⟨.type "function", some s.heap.objs.size, .func fd, sl⟩ → h'.get? s.heap.objs.size = some (oneDict hsh name tk₂ v) →
      (∀ b ob, b ≠ f → s.heap.get? b = some ob → h'.get? b = some ob) → R (.ok (.ret .none)) { s with heap := h', toks := tk' }) :
    wpAny (model prog w) A.in1 (Builtin.«object.__setattr__» ⟨[.ref f, .str name tk, v], []⟩) (fun fin s' => ∃ v, fin = Fin.done (Flow.ret v) ∧ R (Except.ok (Flow.ret v)) s')
          (fun e s' => R (Except.error e) s') s := by
  have hT : s.TypeIs (.ref f) "function" := ⟨_, ho, rfl⟩
  have hlt : f < s.heap.objs.size := Heap.lt_size ho
  have hne : f ≠ s.heap.objs.size := Nat.ne_of_lt hlt
  rw [osa_eq, refuse_eq]
  refine wpAny_bind (wpAny_bind (wpAny_typeOf hT (wpAny_bind (wpAny_of_eq mro_fn ?_))))
  refine wpAny_of_eq (passes_fn _) ?_
  refine wpAny_bind (wpAny_typeOf hT (wpAny_bind (wpAny_of_eq hl (wpAny_bind (wpAny_of_eq (a := none) rfl ?_)))))
  dsimp only
  unfold storeInOwnDict
  refine wpAny_bind (wpAny_of_eq (a := ()) rfl ?_)
  refine wpAny_bind ?_
  unfold ownDictForStores instanceDict
  dsimp only
  refine wpAny_bind (wpAny_loadPart ho ?_)
  dsimp only
  rw [if_neg (by rw [hasDict_fn]; decide)]
  refine wpAny_bind (wpAny_alloc ?_)
  have hf1 : (s.heap.push ({ cls := .type "dict", data := .dict #[] } : Obj)).get? f = some ⟨.type "function", none, .func fd, sl⟩ := Heap.get?_push_of_some _ ho
  refine wpAny_bind (wpAny_update hf1 ?_)
  have hD0 : ((s.heap.push ({ cls := .type "dict", data := .dict #[] } : Obj)).update f (fun o => { o with dict := some s.heap.objs.size })).get? s.heap.objs.size = some (dictOf [] 0) :=
    (Heap.get?_update_ne _ _ _ _ (Ne.symm hne)).trans (Heap.get?_push_size _ rfl)
  unfold dictMade
  dsimp only
  rw [if_neg (by rw [fin_fn]; decide)]
  refine wpAny_pure ?_
  dsimp only
  unfold storeInDict
  refine wpAny_bind (wpAny_pure ?_)
  refine wpAny_bind ?_
  unfold nsSet
  refine wpAny_bind (wpAny_bind (wpAny_askSetting (wpAny_pure (wpAny_bind (wpAny_mkText (wpAny_bind (wpAny_loadPart hD0 ?_)))))))
  dsimp only
  rw [aRefKeyMayBeTheName_at]
  rw [if_neg (by simp)]
  refine wpAny_updatePart (o := dictOf [] 0) ?_ ?_
  · exact hD0
  have hput := fun hsh key => putName_dict name hsh key v [] 0
  have hD1 := Heap.get?_update_self (Obj.putName name (PyData.keyHash w.params name) (.str name s.toks) v) hD0 (by rw [hput]; rfl)
  refine wpAny_bind (wpAny_lookBehind hD1 (by rw [hput]; exact pastItsLine_dict (by rw [sizeLine_eq]; show 1 ≤ 16777216 + 1; decide)) ?_)
  refine wpAny_pure ⟨_, rfl, ?_⟩
  refine h _ _ (PyData.keyHash w.params name) s.toks ?_ ?_ ?_
  · refine (Heap.get?_update_ne _ _ _ _ hne).trans ?_
    exact Heap.get?_update_self _ hf1 rfl
  · rw [hput] at hD1
    exact hD1
  · intro b ob hb e
    have hb2 : b ≠ s.heap.objs.size := Nat.ne_of_lt (Heap.lt_size e)
    exact (Heap.get?_update_ne _ _ _ _ hb2).trans ((Heap.get?_update_ne _ _ _ _ hb).trans (Heap.get?_push_of_some _ e))

theorem fn_set {f : Addr} {fd : FuncData} {sl : Array (Option Value)} {name : Str} {v : Value} {Q : Unit → Shared → Prop}
    (ho : s.heap.get? f = some ⟨.type "function", none, .func fd, sl⟩) (hl : typeLookup (.type "function") name = pure none)
    (h : ∀ h' tk' hsh tk₂, h'.get? f = some ⟨.type "function", some s.heap.objs.size, .func fd, sl⟩ → h'.get? s.heap.objs.size = some (oneDict hsh name tk₂ v) →
      (∀ b ob, b ≠ f → s.heap.get? b = some ob → h'.get? b = some ob) → Q () { s with heap := h', toks := tk' }) :
    wpAny (model prog w) A (setAttr (.ref f) name v) Q E s := by
  have hT : Shared.TypeIs { s with toks := s.toks + 1 } (.ref f) "function" := ⟨_, ho, rfl⟩
  refine wpAny_bind (wpAny_mkText (wpAny_bind ?_))
  unfold callSpecial?
  refine wpAny_bind (wpAny_specialOf hT slot_fn_setattr.lookup ?_)
  dsimp only
  refine wpAny_holding ?_
  rw [slot_fn_setattr.bind]
  refine wpAny_bind (wpAny_pure (wpAny_bind ?_))
  refine call_meets (S := fun A R s' => s' = { s with toks := s.toks + 1 } ∧ ∀ h' tk' hsh tk₂, h'.get? f = some ⟨.type "function", some s.heap.objs.size, .func fd, sl⟩ → h'.get? s.heap.objs.size = some (oneDict hsh name tk₂ v) →
      (∀ b ob, b ≠ f → s.heap.get? b = some ob → h'.get? b = some ob) → R (.ok (.ret .none)) { s with heap := h', toks := tk' }) slot_fn_setattr hT PySem.F.entry_object_setattr (PySem.F.args_object_setattr_3 _ _ _) (Meets.of_wp ?_) ?_
  · rintro prog w A R s' ⟨rfl, hR⟩
    exact fn_osa ho hl hR
  · exact ⟨rfl, fun h' tk' hsh tk₂ a b c => wpAny_pure (wpAny_pure (h h' tk' hsh tk₂ a b c))⟩

open Builtin Builtin.ObjectAttr in
theorem fn_oga {f d g : Addr} {fd : FuncData} {sl : Array (Option Value)} {name : Str} {hsh : Int} {tk tk₂ : Tok} {R : Result → Shared → Prop}
    (ho : s.heap.get? f = some ⟨.type "function", some d, .func fd, sl⟩) (hdo : s.heap.get? d = some (oneDict hsh name tk (.ref g))) (hl : typeLookup (.type "function") name = pure none)
    (h : R (.ok (.ret (.ref g))) s) :
    wpAny (model prog w) A.in1 (Builtin.«object.__getattribute__» ⟨[.ref f, .str name tk₂], []⟩) (fun fin s' => ∃ v, fin = Fin.done (Flow.ret v) ∧ R (Except.ok (Flow.ret v)) s')
          (fun e s' => R (Except.error e) s') s := by
  have hT : s.TypeIs (.ref f) "function" := ⟨_, ho, rfl⟩
  have hn : s.heap.Ns d (fun x => if x = name then some (.ref g) else none) := by
    refine ⟨_, _, _, hdo, rfl, ?_, ?_⟩
    · intro e he
      simp only [List.mem_toArray, List.mem_singleton] at he
      subst he
      exact ⟨_, _, rfl⟩
    · intro x
      unfold nsFind findBy
      simp only [List.find?_toArray, List.find?_cons, List.find?_nil, Value.isStr]
      by_cases hx : x = name
      · subst hx; simp
      · have : (name == x) = false := by simpa using fun e => hx e.symm
        simp [this, hx]
  unfold Builtin.«object.__getattribute__»
  refine wpAny_bind (wpAny_of_eq (a := (.ref f, [.str name tk₂])) rfl ?_)
  dsimp only
  refine wpAny_bind (wpAny_of_eq (a := name) rfl ?_)
  refine wpAny_bind (wpAny_typeOf hT (wpAny_bind ?_))
  unfold find
  refine wpAny_bind (wpAny_of_eq hl (wpAny_bind (wpAny_of_eq (a := none) rfl (wpAny_bind (wpAny_of_eq (a := none) rfl ?_)))))
  dsimp only
  unfold ownThenClass inOwnDict ObjectAttr.ownDict
  dsimp only
  refine wpAny_bind (wpAny_bind (wpAny_bind ?_))
  unfold loadHead
  refine wpAny_loadPart ho ?_
  dsimp only
  unfold instanceDict
  refine wpAny_bind (wpAny_loadPart ho ?_)
  dsimp only
  refine wpAny_pure ?_
  unfold inDict
  refine wpAny_nsGet hn ?_
  rw [if_pos rfl]
  refine wpAny_bind (wpAny_rule (wpAny_pure ?_))
  exact wpAny_pure ⟨_, rfl, h⟩
theorem fn_get {f d g : Addr} {fd : FuncData} {sl : Array (Option Value)} {name : Str} {hsh : Int} {tk : Tok} {expr : Bool} {Q : Value → Shared → Prop}
    (ho : s.heap.get? f = some ⟨.type "function", some d, .func fd, sl⟩) (hdo : s.heap.get? d = some (oneDict hsh name tk (.ref g))) (hl : typeLookup (.type "function") name = pure none)
    (h : Q (.ref g) { s with toks := s.toks + 1 }) :
    wpAny (model prog w) A (getAttr (.ref f) name expr) Q E s := by
  have hT : Shared.TypeIs { s with toks := s.toks + 1 } (.ref f) "function" := ⟨_, ho, rfl⟩
  refine wpAny_bind (wpAny_mkText ?_)
  unfold getAttrBy
  refine wpAny_holding (wpAny_bind (wpAny_typeOf hT (wpAny_bind (wpAny_of_eq slot_fn_get.lookup ?_))))
  dsimp only
  rw [if_neg (by decide)]
  unfold getAttrByItsOwn
  refine wpAny_bind (wpAny_of_eq (a := none) rfl ?_)
  refine wpAny_bind (wpAny_attempt (wpAny_holding ?_))
  unfold callGetattribute
  rw [if_neg (by cases expr <;> decide)]
  unfold boundAndCalled
  rw [slot_fn_get.bind]
  refine wpAny_bind (wpAny_pure ?_)
  refine call_meets (S := fun A R s' => s' = { s with toks := s.toks + 1 } ∧ R (.ok (.ret (.ref g))) { s with toks := s.toks + 1 }) slot_fn_get hT PySem.F.entry_object_getattribute (PySem.F.args_object_getattribute_2 _ _) (Meets.of_wp ?_) ?_
  · rintro prog w A R s' ⟨rfl, hR⟩
    exact fn_oga ho hdo hl hR
  · exact ⟨rfl, wpAny_pure h⟩
theorem canon_oga : Manifest.canonical "object.__getattribute__" = "object.__getattribute__" := by decide +kernel
theorem fn_method {f d g : Addr} {fd : FuncData} {sl : Array (Option Value)} {name : Str} {hsh : Int} {tk : Tok} {pl : Sem Bool} {Q : Value × List Value → Shared → Prop}
    (ho : s.heap.get? f = some ⟨.type "function", some d, .func fd, sl⟩) (hdo : s.heap.get? d = some (oneDict hsh name tk (.ref g))) (hl : typeLookup (.type "function") name = pure none)
    (h : Q (.ref g, []) { s with toks := s.toks + 1 }) :
    wpAny (model prog w) A (getMethod (.ref f) name pl) Q E s := by
  have hT : Shared.TypeIs s (.ref f) "function" := ⟨_, ho, rfl⟩
  unfold getMethod
  refine wpAny_bind (wpAny_specialOf hT slot_fn_get.lookup ?_)
  dsimp only
  rw [if_neg (by rw [canon_oga]; decide)]
  refine wpAny_bind (wpAny_specialOf hT lk_fn_getattr ?_)
  rw [if_neg (by decide)]
  refine wpAny_bind (wpAny_specialOf hT hl ?_)
  dsimp only
  exact wpAny_bind (fn_get ho hdo hl (wpAny_pure h))
theorem fn_truthy {f : Addr} {o : Obj} {Q : Bool → Shared → Prop}
    (ho : s.heap.get? f = some o) (hc : o.cls = .type "function") (h : Q true s) :
    wpAny (model prog w) A (truthy (.ref f)) Q E s := by
  have hT : Shared.TypeIs s (.ref f) "function" := ⟨_, ho, hc⟩
  unfold truthy
  refine wpAny_bind ?_
  unfold callSpecial?
  refine wpAny_bind (wpAny_specialOf hT lk_fn_bool ?_)
  refine wpAny_pure ?_
  dsimp only
  refine wpAny_bind (wpAny_specialOf hT lk_fn_len ?_)
  exact wpAny_pure h
end
end Mine

namespace Mine

/-- what a value of a body's flow hands back -/
abbrev backOf (fl : Flow) : Value := match fl with | .ret v => v | _ => .none

section
variable {prog : Program} {w : World} {A₀ A : Around} {s : Shared} {base h₀ : Heap} {outer : List Env} {L : Addr} {m mg mb : Str → Option Value} {env : Env} {news : List (Addr × Obj)} {K : Frag} {p : Program} {loose : List Str} {mean : ExcName → Option Value}
  {R : Result → Shared → Prop} {name qual : Str} {params : Arguments} {body : List Stmt} {scope : Scope} {cl : List (Str × Addr)} {dV kV doc pm cdv ct : Value} {an : Option Addr} {fo : Obj} {f : Addr} {args : Args} {binds : List (Str × Value)}

/-- a def is entered; all that the ledger at hand does not name is the callee's ground -/
theorem enter_def (B : Below A₀ base outer h₀) (F : Fr h₀ L s.heap m) (X : K.In h₀) (N : News h₀ L s.heap news) (T : Top p loose mean mg mb h₀) (hA : A.frames = some (env :: outer)) (hf : env.frame = some L) (hke : env.scope.kind = .function)
    (ho : s.heap.get? f = some fo) (hd : fo.data = .func (fnX name qual params body scope cl dV kV doc pm an cdv ct)) (hcd : s.heap.CodeRec cdv qual) (hroom : A.depth < recursionLimit)
    (hbind : BindsTo s (fnX name qual params body scope cl dV kV doc pm an cdv ct) args binds) (hloc : ∀ y ∈ binds, scope.names.lookup y.1 = some .local)
    (h : ∀ g L' h₁, (∀ b o, s.heap.get? b = some o → b ∉ news.map (·.1) → g.get? b = some o) → s.heap.objs.size = L' → Fr g L' h₁ (fun y => binds.reverse.lookup y) → News g L' h₁ news → Below A base (env :: outer) g → K.In g → Top p loose mean mg mb g → (∀ p ∈ news, p.1 < L') →
      wpAny (model prog w) (A.deeper (envX qual scope L' f cdv cl)) (execs body (envX qual scope L' f cdv cl))
        (fun fl s' => R (.ok (.ret (match fl with | .ret v => v | _ => .none))) s')
        (fun e s' => wpAny (model prog w) (A.deeper (envX qual scope L' f cdv cl)) (leaving (envX qual scope L' f cdv cl) e) (fun _ s'' => R (.error e) s'') (fun e' s'' => R (.error e') s'') s')
        { s with heap := h₁, toks := s.toks + binds.length })
    (hcell : ∀ x ∈ scope.names, x.2 ≠ .cell) (hco : scope.isCoroutine = false) (hgen : scope.isGenerator = false) (hk : scope.kind = .function) : codeAny (model prog w) A (.call (.ref f) args) R s := by
  have G := groundX (R := R) B F N hA hf hke
  refine codeAny_call_def (fd := fnX name qual params body scope cl dV kV doc pm an cdv ct) (body := body) (binds := binds) hroom ho hd (T.nolimit.keeps F.keep) hcd rfl hbind hcell hloc (fun h₁ hns hup => ?_) hco hgen hk
  have below : ∀ q ∈ news, q.1 < s.heap.objs.size := fun q hq => Heap.lt_size (N q hq).1
  refine h (hideAll s.heap (news.map fun (q : Addr × Obj) => q.1)) _ h₁ (fun b o e hb => hideAll_get _ e hb) rfl ⟨hns, fun b o e => hup b o (of_hideAll _ e), Nat.le_of_eq (hideAll_size _ _)⟩ (fun q hq => ?_) G.2.1 (X.keeps G.2.2.1) (T.keeps G.2.2.1) below
  exact ⟨hup _ _ (N q hq).1, Nat.ne_of_lt (below q hq), hideAll_none _ (List.mem_map_of_mem hq)⟩

/-- the same for a def of the text's top -/
theorem enter_top {od : Option Addr} {oc : Value} {osl : Array (Option Value)} (B : Below A₀ base outer h₀) (F : Fr h₀ L s.heap m) (X : K.In h₀) (N : News h₀ L s.heap news) (T : Top p loose mean mg mb h₀) (hA : A.frames = some (env :: outer)) (hf : env.frame = some L) (hke : env.scope.kind = .function)
    (ho : K.lookup f = some ⟨oc, od, .func (fnOf name qual params body scope dV kV doc pm an cdv ct), osl⟩) (hcd : codeIn K cdv qual = true) (hroom : A.depth < recursionLimit)
    (hbind : BindsTo s (fnOf name qual params body scope dV kV doc pm an cdv ct) args binds) (hloc : ∀ y ∈ binds, scope.names.lookup y.1 = some .local)
    (h : ∀ g L' h₁, (∀ b o, s.heap.get? b = some o → b ∉ news.map (·.1) → g.get? b = some o) → s.heap.objs.size = L' → Fr g L' h₁ (fun y => binds.reverse.lookup y) → News g L' h₁ news → Below A base (env :: outer) g → K.In g → Top p loose mean mg mb g → (∀ p ∈ news, p.1 < L') →
      wpAny (model prog w) (A.deeper (envOf qual scope L' f cdv)) (execs body (envOf qual scope L' f cdv))
        (fun fl s' => R (.ok (.ret (match fl with | .ret v => v | _ => .none))) s')
        (fun e s' => wpAny (model prog w) (A.deeper (envOf qual scope L' f cdv)) (leaving (envOf qual scope L' f cdv) e) (fun _ s'' => R (.error e) s'') (fun e' s'' => R (.error e') s'') s')
        { s with heap := h₁, toks := s.toks + binds.length })
    (hcell : ∀ x ∈ scope.names, x.2 ≠ .cell) (hco : scope.isCoroutine = false) (hgen : scope.isGenerator = false) (hk : scope.kind = .function) : codeAny (model prog w) A (.call (.ref f) args) R s :=
  enter_def (cl := []) B F X N T hA hf hke ((X.keeps F.keep) _ _ ho) rfl (codeRec_of (X.keeps F.keep) hcd) hroom hbind hloc h hcell hco hgen hk

/-- a def of the top that keeps cells -/
theorem enter_cells {od : Option Addr} {oc : Value} {osl : Array (Option Value)} (B : Below A₀ base outer h₀) (F : Fr h₀ L s.heap m) (X : K.In h₀) (N : News h₀ L s.heap news) (T : Top p loose mean mg mb h₀) (hA : A.frames = some (env :: outer)) (hf : env.frame = some L) (hke : env.scope.kind = .function)
    (ho : K.lookup f = some ⟨oc, od, .func (fnOf name qual params body scope dV kV doc pm an cdv ct), osl⟩) (hcd : codeIn K cdv qual = true) (hroom : A.depth < recursionLimit)
    (hbind : BindsTo s (fnOf name qual params body scope dV kV doc pm an cdv ct) args binds)
    (hkind : (binds.all fun y => scope.names.lookup y.1 == some .local || scope.names.lookup y.1 == some .cell) = true) (hnd : ((cellsFrom 0 scope.names []).map (·.1)).Nodup)
    (h : ∀ g L' h₁ tk cells, (∀ b o, s.heap.get? b = some o → b ∉ news.map (·.1) → g.get? b = some o) → s.heap.objs.size = L' → Fr g L' h₁ (bindL (envOfC qual scope L' f cdv).kindOf binds fun _ => none) → News g L' h₁ (cells ++ news) →
      CellsAre (bindC (envOfC qual scope L' f cdv).kindOf binds fun _ => none) (cellsFrom (L' + 1) scope.names []) cells → Below A base (env :: outer) g → K.In g → Top p loose mean mg mb g → (∀ p ∈ news, p.1 < L') →
      wpAny (model prog w) (A.deeper (envOfC qual scope L' f cdv)) (execs body (envOfC qual scope L' f cdv))
        (fun fl s' => R (.ok (.ret (match fl with | .ret v => v | _ => .none))) s')
        (fun e s' => wpAny (model prog w) (A.deeper (envOfC qual scope L' f cdv)) (leaving (envOfC qual scope L' f cdv) e) (fun _ s'' => R (.error e) s'') (fun e' s'' => R (.error e') s'') s')
        { s with heap := h₁, toks := tk })
    (hco : scope.isCoroutine = false) (hgen : scope.isGenerator = false) (hk : scope.kind = .function) : codeAny (model prog w) A (.call (.ref f) args) R s := by
  have G := groundX (R := R) B F N hA hf hke
  have below : ∀ q ∈ news, q.1 < s.heap.objs.size := fun q hq => Heap.lt_size (N q hq).1
  refine codeAny_call_function hroom ((X.keeps F.keep) _ _ ho) rfl hco hgen rfl (codeRec_of (X.keeps F.keep) hcd) (hbind _ _ _ _ ?_)
  refine wpAny_newFunctionEnv_cells hk (kindsX hkind _) fun env' he s' x => ?_
  subst he
  refine ⟨(T.nolimit.keeps F.keep).keeps x.toInCall.keep, codeAny_func ?_⟩
  obtain ⟨h₁, tk, rfl, _⟩ := x.done
  have hup := x.toInCall.keep
  obtain ⟨cells, NC, Y⟩ := Cl.news (h₀ := s.heap) (Nat.le_refl _) fun n c hm => ⟨x.cell n c (lookup_of_mem_nodup (cellsFrom_names scope.names 0 (s.heap.objs.size + 1) [] [] rfl ▸ hnd) hm), x.above n c hm⟩
  refine h (hideAll s.heap (news.map fun (q : Addr × Obj) => q.1)) _ h₁ tk cells (fun b o e hb => hideAll_get _ e hb) rfl ⟨x.toInCall.ns, fun b o e => hup b o (of_hideAll _ e), Nat.le_of_eq (hideAll_size _ _)⟩ (fun q hq => ?_) Y G.2.1 (X.keeps G.2.2.1) (T.keeps G.2.2.1) below
  rcases List.mem_append.mp hq with hq | hq
  · refine ⟨(NC q hq).1, (NC q hq).2.1, ?_⟩
    cases e : (hideAll s.heap (news.map (·.1))).get? q.1 with
    | none => rfl
    | some o =>
      have e' := of_hideAll _ e
      rw [(NC q hq).2.2] at e'
      cases e'
  · exact ⟨hup _ _ (N q hq).1, Nat.ne_of_lt (below q hq), hideAll_none _ (List.mem_map_of_mem hq)⟩

/-- a lambda of the heap -/
theorem enter_lam {lbody : Expr} {pm' ctv : Value} {c' : Addr} {od : Option Addr} {oc : Value} {osl : Array (Option Value)} (B : Below A₀ base outer h₀) (F : Fr h₀ L s.heap m) (X : K.In h₀) (N : News h₀ L s.heap news) (T : Top p loose mean mg mb h₀) (hA : A.frames = some (env :: outer)) (hf : env.frame = some L) (hke : env.scope.kind = .function)
    (ho : s.heap.get? f = some ⟨oc, od, .func (kla_fn name qual params lbody scope cl pm' (.ref c') ctv), osl⟩) (hcd : s.heap.CodeRec (.ref c') qual) (hroom : A.depth < recursionLimit)
    (hbind : bindArgs (kla_fn name qual params lbody scope cl pm' (.ref c') ctv) args = pure binds) (hloc : ∀ y ∈ binds, scope.names.lookup y.1 = some .local)
    (h : ∀ g L' h₁, (∀ b o, s.heap.get? b = some o → b ∉ news.map (·.1) → g.get? b = some o) → s.heap.objs.size = L' → Fr g L' h₁ (fun y => binds.reverse.lookup y) → News g L' h₁ news → Below A base (env :: outer) g → K.In g → Top p loose mean mg mb g → (∀ p ∈ news, p.1 < L') →
      wpAny (model prog w) (A.deeper (envX qual scope L' f (.ref c') cl)) (eval lbody (envX qual scope L' f (.ref c') cl))
        (fun v s' => R (.ok (.ret v)) s')
        (fun e s' => wpAny (model prog w) (A.deeper (envX qual scope L' f (.ref c') cl)) (leaving (envX qual scope L' f (.ref c') cl) e) (fun _ s'' => R (.error e) s'') (fun e' s'' => R (.error e') s'') s')
        { s with heap := h₁, toks := s.toks + binds.length })
    (hcell : ∀ x ∈ scope.names, x.2 ≠ .cell) (hco : scope.isCoroutine = false) (hgen : scope.isGenerator = false) (hk : scope.kind = .function) : codeAny (model prog w) A (.call (.ref f) args) R s := by
  have G := groundX (R := R) B F N hA hf hke
  have below : ∀ q ∈ news, q.1 < s.heap.objs.size := fun q hq => Heap.lt_size (N q hq).1
  refine kla_callFunE hroom ho rfl hco hgen rfl hcd ?_
  rw [hbind]
  refine wpAny_pure (wpAny_newFunctionEnv hcell hloc (fun h₁ hns hsb => ⟨(T.nolimit.keeps F.keep).fresh _ hsb, ?_⟩) hk)
  have hup : ∀ b o, s.heap.get? b = some o → h₁.get? b = some o := fun b o e => hsb.extBut b o (Nat.ne_of_lt (Heap.lt_size e)) (Heap.get?_push_of_some _ e)
  refine kla_codeExpr ?_
  refine h (hideAll s.heap (news.map fun (q : Addr × Obj) => q.1)) _ h₁ (fun b o e hb => hideAll_get _ e hb) rfl ⟨hns, fun b o e => hup b o (of_hideAll _ e), Nat.le_of_eq (hideAll_size _ _)⟩ (fun q hq => ?_) G.2.1 (X.keeps G.2.2.1) (T.keeps G.2.2.1) below
  exact ⟨hup _ _ (N q hq).1, Nat.ne_of_lt (below q hq), hideAll_none _ (List.mem_map_of_mem hq)⟩
end

/-- a made function's own dict is laid -/
theorem set_fnK {prog : Program} {w : World} {A : Around} {E : Value → Shared → Prop} {s : Shared} {h₀ : Heap} {L f : Addr} {m : Str → Option Value} {news : List (Addr × Obj)} {g : Obj → List (Addr × Obj)} {fd : FuncData} {sl : Array (Option Value)} {name : Str} {v : Value} {Q : Unit → Shared → Prop}
    (FS : ∀ (s : Shared) (Q : Unit → Shared → Prop), s.heap.get? f = some ⟨.type "function", none, .func fd, sl⟩ →
      (∀ h' tk' hsh tk₂, h'.get? f = some ⟨.type "function", some s.heap.objs.size, .func fd, sl⟩ → h'.get? s.heap.objs.size = some (dictOf [⟨hsh, .str name tk₂, v⟩] 1) →
      (∀ b ob, b ≠ f → s.heap.get? b = some ob → h'.get? b = some ob) → Q () { s with heap := h', toks := tk' }) → wpAny (model prog w) A (setAttr (.ref f) name v) Q E s)
    (F : Fr h₀ L s.heap m) (N : News h₀ L s.heap news) (U : UpdF f ⟨.type "function", none, .func fd, sl⟩ news g)
    (h : ∀ d h' tk' hsh tk₂, Fr h₀ L h' m → News h₀ L h' ((d, dictOf [⟨hsh, .str name tk₂, v⟩] 1) :: g ⟨.type "function", some d, .func fd, sl⟩) → (∀ q ∈ news, q.1 < d) → Q () { s with heap := h', toks := tk' }) :
    wpAny (model prog w) A (setAttr (.ref f) name v) Q E s := by
  obtain ⟨own, rest, rfl, hgr, h1, h2⟩ := U.split
  have hm := N (f, _) (List.mem_append_right _ (.head _))
  refine FS s _ hm.1 fun h' tk' hsh tk₂ e1 e2 e3 => ?_
  have hLs : L < s.heap.objs.size := F.ns.lt
  have hL0 : h₀.objs.size ≤ s.heap.objs.size := Nat.le_trans F.above (Nat.le_of_lt hLs)
  refine h s.heap.objs.size h' tk' hsh tk₂ ⟨F.ns.at' fun o e => e3 _ o (Ne.symm hm.2.1) e, fun b o e => e3 b o (fun q => by rw [q, hm.2.2] at e; cases e) (F.keep b o e), F.above⟩ (fun q hq => ?_) (fun q hq => Heap.lt_size (N q hq).1)
  rcases List.mem_cons.mp hq with rfl | hq
  · exact ⟨e2, Nat.ne_of_gt hLs, Heap.get?_none_of_le hL0⟩
  · rw [hgr] at hq
    rcases List.mem_append.mp hq with hq | hq
    · have n := N q (List.mem_append_left _ hq)
      exact ⟨e3 _ _ (h1 q hq) n.1, n.2⟩
    · rcases List.mem_cons.mp hq with rfl | hq
      · exact ⟨e1, hm.2⟩
      · have n := N q (List.mem_append_right _ (.tail _ hq))
        exact ⟨e3 _ _ (h2 q hq) n.1, n.2⟩
end Mine

namespace Mine

/-- all but the two tables of nested code stands -/
def Keep2 (h h' : Heap) : Prop := ∀ b o, b ≠ 37 → b ≠ 44 → h.get? b = some o → h'.get? b = some o
theorem Keep2.trans {a b c : Heap} (x : Keep2 a b) (y : Keep2 b c) : Keep2 a c := fun q o h1 h2 e => y q o h1 h2 (x q o h1 h2 e)
theorem ne37 {c : Nat} (h : 66 < c) : c ≠ 37 := by omega
theorem ne44 {c : Nat} (h : 66 < c) : c ≠ 44 := by omega

/-- the objects of the list stand -/
def Has (h : Heap) (own : List (Addr × Obj)) : Prop := ∀ q ∈ own, h.get? q.1 = some q.2
/-- they lie above lo, and are new beside h or no dicts -/
def OwnOk (lo : Nat) (h : Heap) (own : List (Addr × Obj)) : Prop := ∀ q ∈ own, @LT.lt Nat _ lo q.1 ∧ (h.get? q.1 = none ∨ ∀ es n, q.2.data ≠ .dict es n)
def NoDict (lo : Nat) (own : List (Addr × Obj)) : Prop := ∀ q ∈ own, @LT.lt Nat _ lo q.1 ∧ ∀ es n, q.2.data ≠ .dict es n
def CodeIs (own : List (Addr × Obj)) (c : Addr) (q : Str) : Prop := ∃ oc vs t, (c, oc) ∈ own ∧ oc.data = .fields vs ∧ vs[1]? = some (.str q t)
theorem CodeIs.rec {h : Heap} {own : List (Addr × Obj)} {c : Addr} {q : Str} (x : CodeIs own c q) (H : Has h own) : h.CodeRec (.ref c) q :=
  let ⟨oc, vs, t, m, d, v⟩ := x; ⟨c, oc, vs, t, rfl, H _ m, d, v⟩
theorem Has.ext {P : Addr} {h h' : Heap} {own : List (Addr × Obj)} {lo : Nat} (x : Has h own) (k : Heap.ExtBut P h h') (n : ∀ q ∈ own, @LT.lt Nat _ lo q.1) (hP : @LE.le Nat _ P lo) : Has h' own :=
  fun q hq => k _ _ (fun e => absurd (n q hq) (by rw [e]; exact Nat.not_lt.mpr hP)) (x q hq)
theorem Has.app {h : Heap} {a b : List (Addr × Obj)} (x : Has h a) (y : Has h b) : Has h (a ++ b) := fun q hq => (List.mem_append.mp hq).elim (x q) (y q)

/-- the table of the code made inside _law_hit: still empty, or full -/
def HitTab (own : List (Addr × Obj)) (ps : Array Value) : Prop :=
  ps = #[] ∨ ∃ c1 c2, ps = #[rawInt (25 : Nat), rawInt (10 : Nat), .ref c1, rawInt (26 : Nat), rawInt (15 : Nat), .ref c2] ∧ CodeIs own c1 "_law_hit.<locals>.<lambda>" ∧ CodeIs own c2 "_law_hit.<locals>.<lambda>"

/-- g is a lambda that gives the pair of place and the next one, wherever own stands -/
def SpanBy (w : World) (own : List (Addr × Obj)) (g : Addr) (place : Int) : Prop :=
  ∀ (A₀ A : Around) (base h₀ : Heap) (outer : List Env) (env : Env) (L : Addr) (m mg mb : Str → Option Value) (p : Program) (loose : List Str) (mean : ExcName → Option Value) (s : Shared) (Q E : Value → Shared → Prop),
    Has s.heap own → (hd.heap_39 w.params).In h₀ → Below A₀ base outer h₀ → Fr h₀ L s.heap m → Top p loose mean mg mb h₀ → A.frames = some (env :: outer) → env.frame = some L → env.scope.kind = .function → A.depth < recursionLimit → A.handled = none →
    (∀ h' tk a t1 t2, (∀ b o, s.heap.get? b = some o → h'.get? b = some o) → h'.get? a = some ({ cls := .type "tuple", data := .seq #[.int place t1, .int (place + 1) t2] } : Obj) → s.heap.get? a = none → Q (.ref a) { s with heap := h', toks := tk }) →
    wpAny (model Challenge.rw_mr0022_01.row.prog w) A (call (.ref g) []) Q E s
/-- f is a hit at place -/
def HitBy (w : World) (own : List (Addr × Obj)) (f : Addr) (place : Int) : Prop :=
  ∃ d fd sl hsh t g, (f, (⟨.type "function", some d, .func fd, sl⟩ : Obj)) ∈ own ∧ (d, oneDict hsh "span" t (.ref g)) ∈ own ∧ (∃ oc od fd' sl', (g, (⟨oc, od, .func fd', sl'⟩ : Obj)) ∈ own) ∧ SpanBy w own g place
theorem SpanBy.sub {w : World} {own own' : List (Addr × Obj)} {g : Addr} {place : Int} (x : SpanBy w own g place) (k : ∀ q ∈ own, q ∈ own') : SpanBy w own' g place := by
  intro A₀ A base h₀ outer env L m mg mb p loose mean s Q E ks
  exact x A₀ A base h₀ outer env L m mg mb p loose mean s Q E fun q hq => ks q (k q hq)
theorem HitBy.sub {w : World} {own own' : List (Addr × Obj)} {f : Addr} {place : Int} (x : HitBy w own f place) (k : ∀ q ∈ own, q ∈ own') : HitBy w own' f place := by
  obtain ⟨d, fd, sl, hsh, t, g, h1, h2, ⟨oc, od, fd', sl', h4⟩, h3⟩ := x
  exact ⟨d, fd, sl, hsh, t, g, k _ h1, k _ h2, ⟨oc, od, fd', sl', k _ h4⟩, h3.sub k⟩

theorem fresh_of {h g : Heap} {l : List Addr} {a : Addr} (hg : ∀ b o, h.get? b = some o → b ∉ l → g.get? b = some o) (e : g.get? a = none) (ha : a ∉ l) : h.get? a = none := by
  cases q : h.get? a with
  | none => rfl
  | some o => rw [hg _ _ q ha] at e; cases e
theorem codeRec_keep2 {h h' : Heap} {c : Addr} {q : Str} (r : h.CodeRec (.ref c) q) (k : Keep2 h h') (h1 : c ≠ 37) (h2 : c ≠ 44) : h'.CodeRec (.ref c) q := by
  obtain ⟨c₂, oc, vs, t, e, ho, hd, hv⟩ := r
  cases e
  exact ⟨c, oc, vs, t, rfl, k _ _ h1 h2 ho, hd, hv⟩
theorem codeRec_ext {P : Addr} {h h' : Heap} {c : Addr} {q : Str} (r : h.CodeRec (.ref c) q) (k : Heap.ExtBut P h h') (h1 : c ≠ P) : h'.CodeRec (.ref c) q := by
  obtain ⟨c₂, oc, vs, t, e, ho, hd, hv⟩ := r
  cases e
  exact ⟨c, oc, vs, t, rfl, k _ _ h1 ho, hd, hv⟩
/-- a name closed over, its cell in the ground -/
theorem nameX_G {M : Model} {A : Around} {E : Value → Shared → Prop} {s : Shared} {h₀ : Heap} {L a : Addr} {m : Str → Option Value} {cn : Str} {cs : Scope} {ccd : Value} {cl : List (Str × Addr)} {x : Str} {pos : Pos} {v : Value} {Q : Value → Shared → Prop} {c : Addr} {o : Obj}
    (F : Fr h₀ L s.heap m) (hc : cl.lookup x = some c) (ho : h₀.get? c = some o) (hv : o.data = .cell (some v)) (h : Q v s)
    (hk : cs.kind = .function := by rfl) (hx : (envX cn cs L a ccd cl).kindOf x = some .free := by rfl) (hb : (x == ("__debug__" : Str)) = false := by decide) (hn : (x == ("__classdict__" : Str)) = false := by decide) :
    wpAny M A (eval (.Name x pos) (envX cn cs L a ccd cl)) Q E s := wpAny_Name (wpAny_loadName_free hk hx hc ⟨_, F.keep _ _ ho, hv⟩ h hn) hb
local macro_rules | `(tactic| walk_at "eval Name") => `(tactic| (k_here; kc_free; k_dflt (refine' nameX_G ?F ?c ?o ?d ?_ ?a ?b; (case a => rfl); (case b => rfl); (case F => k_asm); (case c => rfl); (case o => assumption); (case d => assumption); k_whole)))
local macro_rules | `(tactic| walk_at "setAttr ref") => `(tactic| (k_here; k_dflt (refine' set_fnK ?FS ?F ?N ?U ?_; (case FS => exact fun s Q a b => fn_set a (by first | exact lk_fn_span | exact lk_fn_search) b); (case F => k_asm); (case N => k_asm); (case U => k_updF); k_whole); intro d' h' tk' hs' t2' F' N' l1; (try dsimp only at N'); (try k_lt l1); (try k_sweep)))

section
variable {w : World} {A₀ : Around} {base h₀ : Heap} {e1 e2 e3 : Env} {L : Addr} {m mg mb : Str → Option Value} {p : Program} {loose : List Str} {mean : ExcName → Option Value} {s : Shared} {place : Int} {tk : Tok} {Q : Value → Shared → Prop} {E : Value → Shared → Prop} {lo : Nat}
set_option maxHeartbeats 8000000 in
theorem hit_empty :
   (hd.heap_39 w.params).In h₀ → Below A₀ base [e2, e1] h₀ → Fr h₀ L s.heap m → Top p loose mean mg mb h₀ → News h₀ L s.heap [(37, tabObj #[])] → CodeHd base 41 37 → e3.frame = some L → e3.scope.kind = .function → 66 ≤ lo → @LE.le Nat _ lo L →
   (∀ h' tk f ps ownT own, Heap.ExtBut 37 s.heap h' → h'.get? 37 = some (tabObj ps) → Has h' ownT → NoDict lo ownT → HitTab ownT ps → Has h' own → OwnOk lo s.heap own → HitBy w own f place → Q (.ref f) { s with heap := h', toks := tk }) →
   wpAny (model Challenge.rw_mr0022_01.row.prog w) (((callerA.deeper e1).deeper e2).deeper e3) (call (.ref 42) [.int place tk]) Q E s := by
  k_fill
  intro X B F T N C hf hke hlo hlL hQ
  have hLs : @LT.lt Nat _ L s.heap.objs.size := F.ns.lt
  refine wpAny_call ?_
  (refine' enter_cells B F X N T ?kA hf hke ?k6 ?k7 ?k8 ?k9 ?kB ?kD ?_ ?c2 ?c3 ?c4; (case kA => exact rfl);  (case k6 => k_is); (case k7 => k_is); (case k8 => k_room); (case k9 => exact BindsTo.of_eq rfl); (case kB => exact rfl); (case kD => decide +kernel); (case c2 => exact rfl); (case c3 => exact rfl); (case c4 => exact rfl); k_whole; intro g' L' h' tk' cells' hg hL' F' N' Y' B' X' T' l1; (try k_lt l1); k_cells Y'; (try simp only [List.cons_append, List.nil_append] at N'); (try dsimp only); (try k_lift B'); (try k_fold))
  have hbig : @LT.lt Nat _ lo L' := by omega
  w_strict k_steps
  rename Fr _ _ _ _ => F'
  rename News _ _ _ _ => N'
  rename Obj.data _ = Data.cell _ => hdC
  replace hdC : _ = Data.cell (some (.int place tk)) := hdC
  have ext : Heap.ExtBut 37 s.heap _ := fun b o hb e => F'.keep b o (hg b o e (by simpa using hb))
  have new : ∀ q, g'.get? q = none → @LT.lt Nat _ lo q → s.heap.get? q = none := fun q e hq => fresh_of hg e (by simp only [List.map_cons, List.map_nil, List.mem_singleton]; exact fun z => absurd hq (by rw [z]; exact Nat.not_lt.mpr (by omega)))
  have hfn := (N' (_, kla_obj _ _ _ _ _ _ _ _ _) (List.Mem.tail _ (List.Mem.head _)))
  have hdd := (N' _ (List.Mem.head _))
  have hff := (N' (_, Obj.mk (.type "function") (some _) (.func _) _) (by k_mem))
  have hce := (N' (L' + 1, _) (by k_mem))
  have hc2 := (N' _ (List.Mem.tail _ (List.Mem.tail _ (List.Mem.head _))))
  have hc1 := (N' _ (List.Mem.tail _ (List.Mem.tail _ (List.Mem.tail _ (List.Mem.tail _ (List.Mem.head _))))))
  have nd : ∀ (o : Obj) (vs : Array Value), o.data = .fields vs → ∀ es n, o.data ≠ .dict es n := fun o vs e es n z => by rw [e] at z; cases z
  refine hQ _ _ _ _ [_, _] [_, _, _, _, _] ext (N' (37, tabObj _) (by k_mem)).1 (List.forall_mem_cons.mpr ⟨hc2.1, List.forall_mem_cons.mpr ⟨hc1.1, List.forall_mem_nil _⟩⟩) ?_ (.inr ⟨_, _, rfl, ?_, ?_⟩) (List.forall_mem_cons.mpr ⟨hfn.1, List.forall_mem_cons.mpr ⟨hdd.1, List.forall_mem_cons.mpr ⟨hff.1, List.forall_mem_cons.mpr ⟨hce.1, List.forall_mem_cons.mpr ⟨hc2.1, List.forall_mem_nil _⟩⟩⟩⟩⟩) ?_ ?_
  · exact List.forall_mem_cons.mpr ⟨⟨ltN (by omega), nd _ _ (by assumption)⟩, List.forall_mem_cons.mpr ⟨⟨ltN (by omega), nd _ _ (by assumption)⟩, List.forall_mem_nil _⟩⟩
  · exact ⟨_, _, _, List.Mem.tail _ (List.Mem.head _), by assumption, by assumption⟩
  · exact ⟨_, _, _, List.Mem.head _, by assumption, by assumption⟩
  · refine List.forall_mem_cons.mpr ⟨⟨ltN (by omega), .inl (new _ hfn.2.2 (by omega))⟩, List.forall_mem_cons.mpr ⟨⟨ltN (by omega), .inl (new _ hdd.2.2 (by omega))⟩, List.forall_mem_cons.mpr ⟨⟨ltN (by omega), .inl (new _ hff.2.2 (by omega))⟩, List.forall_mem_cons.mpr ⟨⟨ltN (by omega), .inl (new _ hce.2.2 (by omega))⟩, List.forall_mem_cons.mpr ⟨⟨ltN (by omega), .inr (nd _ _ (by assumption))⟩, List.forall_mem_nil _⟩⟩⟩⟩⟩
  · refine ⟨_, _, _, _, _, _, List.Mem.tail _ (List.Mem.tail _ (List.Mem.head _)), List.Mem.tail _ (List.Mem.head _), ⟨_, _, _, _, List.Mem.head _⟩, ?_⟩
    intro A₀ A base h₀ outer env L m mg mb p loose mean s Q E ks X B F T hA hf hke hroom hh hQ
    refine wpAny_call ?_
    have hfn' := ks _ (List.Mem.head _)
    have hce' := ks _ (List.Mem.tail _ (List.Mem.tail _ (List.Mem.tail _ (List.Mem.head _))))
    (refine' enter_lam (news := []) B F X ?N T hA hf hke ?k6 ?k7 hroom ?k9 ?kB ?_ ?c5 ?c2 ?c3 ?c4; (case N => exact fun q hq => nomatch hq); (case k6 => exact hfn'); (case k9 => exact rfl); (case kB => exact locs rfl); (case c2 => exact rfl); (case c3 => exact rfl); (case c4 => exact rfl); (case c5 => decide))
    · exact CodeIs.rec ⟨_, _, _, List.Mem.tail _ (List.Mem.tail _ (List.Mem.tail _ (List.Mem.tail _ (List.Mem.head _)))), by assumption, by assumption⟩ ks
    · intro g'' L'' h'' hg'' hL'' F'' N'' B'' X'' T'' l1''
      have hcG := hg'' _ _ hce' (fun q => nomatch q)
      clear N' hfn hdd hff hce ks hfn' hce'
      try dsimp only
      w_strict k_steps
      rename Fr _ _ _ _ => F₃
      rename News _ _ _ _ => N₃
      refine hQ _ _ _ _ _ (fun b o e => F₃.keep b o (hg'' b o e (fun q => nomatch q))) (N₃ _ (List.Mem.head _)).1 ?_
      exact fresh_of hg'' (N₃ _ (List.Mem.head _)).2.2 (fun q => nomatch q)
set_option maxHeartbeats 8000000 in
theorem hit_full {c1 c2 : Addr} {ownT : List (Addr × Obj)} :
   (hd.heap_39 w.params).In h₀ → Below A₀ base [e2, e1] h₀ → Fr h₀ L s.heap m → Top p loose mean mg mb h₀ → News h₀ L s.heap [(37, tabObj #[rawInt (25 : Nat), rawInt (10 : Nat), .ref c1, rawInt (26 : Nat), rawInt (15 : Nat), .ref c2])] → Has s.heap ownT → NoDict lo ownT → CodeIs ownT c1 "_law_hit.<locals>.<lambda>" → CodeIs ownT c2 "_law_hit.<locals>.<lambda>" → CodeHd base 41 37 → e3.frame = some L → e3.scope.kind = .function → 66 ≤ lo → @LE.le Nat _ lo L →
   (∀ h' tk f ps ownT own, Heap.ExtBut 37 s.heap h' → h'.get? 37 = some (tabObj ps) → Has h' ownT → NoDict lo ownT → HitTab ownT ps → Has h' own → OwnOk lo s.heap own → HitBy w own f place → Q (.ref f) { s with heap := h', toks := tk }) →
   wpAny (model Challenge.rw_mr0022_01.row.prog w) (((callerA.deeper e1).deeper e2).deeper e3) (call (.ref 42) [.int place tk]) Q E s := by
  k_fill
  intro X B F T N hT nT r1 r2 C hf hke hlo hlL hQ
  have hLs : @LT.lt Nat _ L s.heap.objs.size := F.ns.lt
  refine wpAny_call ?_
  (refine' enter_cells B F X N T ?kA hf hke ?k6 ?k7 ?k8 ?k9 ?kB ?kD ?_ ?c2 ?c3 ?c4; (case kA => exact rfl);  (case k6 => k_is); (case k7 => k_is); (case k8 => k_room); (case k9 => exact BindsTo.of_eq rfl); (case kB => exact rfl); (case kD => decide +kernel); (case c2 => exact rfl); (case c3 => exact rfl); (case c4 => exact rfl); k_whole; intro g' L' h' tk' cells' hg hL' F' N' Y' B' X' T' l1; (try k_lt l1); k_cells Y'; (try simp only [List.cons_append, List.nil_append] at N'); (try dsimp only); (try k_lift B'); (try k_fold))
  have hbig : @LT.lt Nat _ lo L' := by omega
  w_strict k_steps
  rename Fr _ _ _ _ => F'
  rename News _ _ _ _ => N'
  rename Obj.data _ = Data.cell _ => hdC
  replace hdC : _ = Data.cell (some (.int place tk)) := hdC
  have ext : Heap.ExtBut 37 s.heap _ := fun b o hb e => F'.keep b o (hg b o e (by simpa using hb))
  have new : ∀ q, g'.get? q = none → @LT.lt Nat _ lo q → s.heap.get? q = none := fun q e hq => fresh_of hg e (by simp only [List.map_cons, List.map_nil, List.mem_singleton]; exact fun z => absurd hq (by rw [z]; exact Nat.not_lt.mpr (by omega)))
  obtain ⟨o2, vs2, t2, m2, d2, v2⟩ := r2
  have hT' : Has _ ownT := hT.ext ext (fun q hq => (nT q hq).1) (by omega)
  have hfn := (N' (_, kla_obj _ _ _ _ _ _ _ _ _) (List.Mem.tail _ (List.Mem.head _)))
  have hdd := (N' _ (List.Mem.head _))
  have hff := (N' (_, Obj.mk (.type "function") (some _) (.func _) _) (by k_mem))
  have hce := (N' (L' + 1, _) (by k_mem))
  refine hQ _ _ _ _ ownT [_, _, _, _, (c2, o2)] ext (N' (37, tabObj _) (by k_mem)).1 hT' nT (.inr ⟨c1, c2, rfl, r1, ⟨o2, vs2, t2, m2, d2, v2⟩⟩) (List.forall_mem_cons.mpr ⟨hfn.1, List.forall_mem_cons.mpr ⟨hdd.1, List.forall_mem_cons.mpr ⟨hff.1, List.forall_mem_cons.mpr ⟨hce.1, List.forall_mem_cons.mpr ⟨hT' _ m2, List.forall_mem_nil _⟩⟩⟩⟩⟩) ?_ ?_
  · refine List.forall_mem_cons.mpr ⟨⟨ltN (by omega), .inl (new _ hfn.2.2 (by omega))⟩, List.forall_mem_cons.mpr ⟨⟨ltN (by omega), .inl (new _ hdd.2.2 (by omega))⟩, List.forall_mem_cons.mpr ⟨⟨ltN (by omega), .inl (new _ hff.2.2 (by omega))⟩, List.forall_mem_cons.mpr ⟨⟨ltN (by omega), .inl (new _ hce.2.2 (by omega))⟩, List.forall_mem_cons.mpr ⟨⟨(nT _ m2).1, .inr (nT _ m2).2⟩, List.forall_mem_nil _⟩⟩⟩⟩⟩
  · refine ⟨_, _, _, _, _, _, List.Mem.tail _ (List.Mem.tail _ (List.Mem.head _)), List.Mem.tail _ (List.Mem.head _), ⟨_, _, _, _, List.Mem.head _⟩, ?_⟩
    intro A₀ A base h₀ outer env L m mg mb p loose mean s Q E ks X B F T hA hf hke hroom hh hQ
    refine wpAny_call ?_
    have hfn' := ks _ (List.Mem.head _)
    have hce' := ks _ (List.Mem.tail _ (List.Mem.tail _ (List.Mem.tail _ (List.Mem.head _))))
    (refine' enter_lam (news := []) B F X ?N T hA hf hke ?k6 ?k7 hroom ?k9 ?kB ?_ ?c5 ?c2 ?c3 ?c4; (case N => exact fun q hq => nomatch hq); (case k6 => exact hfn'); (case k9 => exact rfl); (case kB => exact locs rfl); (case c2 => exact rfl); (case c3 => exact rfl); (case c4 => exact rfl); (case c5 => decide))
    · exact CodeIs.rec ⟨o2, vs2, t2, by k_mem, d2, v2⟩ ks
    · intro g'' L'' h'' hg'' hL'' F'' N'' B'' X'' T'' l1''
      have hcG := hg'' _ _ hce' (fun q => nomatch q)
      clear N' hfn hdd hff hce ks hfn' hce'
      try dsimp only
      w_strict k_steps
      rename Fr _ _ _ _ => F₃
      rename News _ _ _ _ => N₃
      refine hQ _ _ _ _ _ (fun b o e => F₃.keep b o (hg'' b o e (fun q => nomatch q))) (N₃ _ (List.Mem.head _)).1 ?_
      exact fresh_of hg'' (N₃ _ (List.Mem.head _)).2.2 (fun q => nomatch q)

/-- the contract of _law_hit -/
theorem hit_call {ps : Array Value} {ownT : List (Addr × Obj)} (X : (hd.heap_39 w.params).In h₀) (B : Below A₀ base [e2, e1] h₀) (F : Fr h₀ L s.heap m) (T : Top p loose mean mg mb h₀) (N : News h₀ L s.heap [(37, tabObj ps)]) (hT : Has s.heap ownT) (nT : NoDict lo ownT) (H : HitTab ownT ps) (C : CodeHd base 41 37) (hf : e3.frame = some L) (hke : e3.scope.kind = .function) (hlo : 66 ≤ lo) (hlL : @LE.le Nat _ lo L)
    (hQ : ∀ h' tk f ps ownT own, Heap.ExtBut 37 s.heap h' → h'.get? 37 = some (tabObj ps) → Has h' ownT → NoDict lo ownT → HitTab ownT ps → Has h' own → OwnOk lo s.heap own → HitBy w own f place → Q (.ref f) { s with heap := h', toks := tk }) :
    wpAny (model Challenge.rw_mr0022_01.row.prog w) (((callerA.deeper e1).deeper e2).deeper e3) (call (.ref 42) [.int place tk]) Q E s := by
  rcases H with rfl | ⟨c1, c2, rfl, r1, r2⟩
  · exact hit_empty X B F T N C hf hke hlo hlL hQ
  · exact hit_full X B F T N hT nT r1 r2 C hf hke hlo hlL hQ
end
end Mine

namespace Mine
section
variable {prog : Program} {w : World} {A : Around} {E : Value → Shared → Prop} {s : Shared} {env : Env} {h₀ : Heap} {x : Str} {body : List Stmt} {Q : Flow → Shared → Prop}

/-- what a turn of a scan leaves that goes on -/
def ScanOn (h₀ : Heap) (L : Addr) (x : Str) (m₀ : Str → Option Value) (P : Prop) (s₁ s₂ : Shared) : Prop :=
  ∃ h' tk' u', s₂ = { s₁ with heap := h', toks := tk' } ∧ (∀ b o, b ≠ L → s₁.heap.get? b = some o → h'.get? b = some o) ∧ Fr h₀ L h' (fun y => if y = x then u' else m₀ y) ∧ P

/-- a loop over a range that keeps all but its own name, by what holds of the places passed -/
theorem range_scan {r : Addr} {a₀ b₀ : Int} {t₀ u₀ v₀ : Tok} {n : Nat} {m₀ : Str → Option Value} {news : List (Addr × Obj)} (P : Nat → Prop)
    (hh : A.handled = none) (hr : IsRange s.heap r a₀ b₀ 1 t₀ u₀ v₀) (hsmall : Builtin.Range.small a₀ b₀ 1 = true) (hn : Builtin.Range.rangeSize a₀ b₀ 1 = (n : Int)) (F : Fr h₀ env.locals s.heap m₀) (N : News h₀ env.locals s.heap news) (h0 : P 0)
    (turn : ∀ (i : Nat) t h tk, i < n → P i → Fr h₀ env.locals h (fun y => if y = x then some (.int (a₀ + (i : Int)) t) else m₀ y) → News h₀ env.locals h news →
      wpAny (model prog w) A (execs body env) (fun f s₂ => match f with | .ret v => Q (.ret v) s₂ | .brk => Q .next s₂ | _ => ScanOn h₀ env.locals x m₀ (P (i + 1)) { s with heap := h, toks := tk } s₂) E { s with heap := h, toks := tk })
    (done : ∀ u h tk, P n → Fr h₀ env.locals h (fun y => if y = x then u else m₀ y) → News h₀ env.locals h news → Q .next { s with heap := h, toks := tk }) :
    wpAny (model prog w) A (pyIter (.ref r)) (fun it s₂ => LoopAtV prog w A h₀ env x body Q E it s₂) E s := by
  refine wpAny_pyIter_range hr hsmall ?_
  have W : Walks prog w A s.heap.objs.size [s.heap.objs.size] [s.heap.objs.size] n (fun i v => i < n ∧ ∃ t, v = .int (a₀ + i * 1) t)
      (fun i h => IsRangeIter h s.heap.objs.size (a₀ + (i : Nat) * 1) ((n : Int) - (i : Nat)) 1) := (Walks.range hh _ a₀ 1 n).bound
  have hI : ∀ q ∈ news, q.1 ∉ [s.heap.objs.size] := fun q hq hm => absurd (Heap.lt_size (N q hq).1) ((List.mem_singleton.mp hm) ▸ Nat.lt_irrefl _)
  refine ⟨_, _, _, n, _, _, m₀, news, fun i m nw => nw = news ∧ P i ∧ ∃ u, m = fun y => if y = x then u else m₀ y, rfl, W, ?_, ?_, hI, ?_, F.push _, (fun q hq => ⟨Heap.get?_push_of_some _ (N q hq).1, (N q hq).2⟩), ⟨rfl, h0, m₀ x, ?_⟩, ?_, ?_⟩
  · exact fun hm => absurd F.ns.lt ((List.mem_singleton.mp hm) ▸ Nat.lt_irrefl _)
  · intro b hb
    rw [List.mem_singleton.mp hb]
    exact next_is_new F
  · show IsRangeIter _ _ _ _ _
    rw [hn]
    simpa using Heap.get?_push_size _ rfl
  · funext y
    by_cases hy : y = x
    · rw [if_pos hy, hy]
    · rw [if_neg hy]
  · rintro i v m₁ nw s₁ own ⟨h, tk, rfl⟩ hi ⟨_, t, rfl⟩ ⟨rfl, hP, u, rfl⟩ hoff hown hlive _ _ F₁ N₁
    have e1 : a₀ + (i : Int) * 1 = a₀ + (i : Int) := by omega
    rw [e1] at F₁
    have e2 : (fun y => if y = x then some (Value.int (a₀ + (i : Int)) t) else if y = x then u else m₀ y) = fun y => if y = x then some (Value.int (a₀ + (i : Int)) t) else m₀ y := by
      funext y
      by_cases hy : y = x
      · rw [if_pos hy, if_pos hy]
      · rw [if_neg hy, if_neg hy, if_neg hy]
    have F₂ : Fr h₀ env.locals h (fun y => if y = x then some (Value.int (a₀ + (i : Int)) t) else m₀ y) := e2 ▸ F₁
    refine wpAny_mono (turn i t h tk hi hP F₂ (fun q hq => N₁ q (List.mem_append_right _ hq))) (fun f s₂ hf => ?_) fun _ _ e => e
    have fin : ScanOn h₀ env.locals x m₀ (P (i + 1)) { s with heap := h, toks := tk } s₂ → LoopStepU h₀ env.locals [s.heap.objs.size] own (fun m nw' => nw' = nw ∧ P (i + 1) ∧ ∃ u, m = fun y => if y = x then u else m₀ y) { s with heap := h, toks := tk } .next s₂ := by
      rintro ⟨h', tk', u', e, hk, F', hP'⟩
      exact ⟨rfl, h', tk', _, nw, e, F', fun q hq => ⟨hk _ _ (N₁ q hq).2.1 (N₁ q hq).1, (N₁ q hq).2⟩, hoff, rfl, hP', u', rfl⟩
    cases f with
    | ret v => exact .ret hf
    | brk => exact .brk hf
    | next => exact .next (fin hf)
    | cont => exact .cont (fin hf)
  · rintro h' tk m' nw' F' N' _ ⟨rfl, hP, u, rfl⟩
    exact done u h' tk hP F' N'

/-- what a turn leaves that goes on -/
def WhileOn (h₀ : Heap) (L : Addr) (s : Shared) (J : Nat → (Str → Option Value) → Heap → Prop) (n : Nat) (s₃ : Shared) : Prop :=
  ∃ h' tk' m' n', s₃ = { s with heap := h', toks := tk' } ∧ Fr h₀ L h' m' ∧ n' < n ∧ J n' m' h'
/-- a while by a word on the frame and the heap -/
theorem while_heap {L : Addr} {test : Expr} {wbody : List Stmt} {pos : Pos} {m₀ : Str → Option Value} (J : Nat → (Str → Option Value) → Heap → Prop) {n₀ : Nat}
    (F : Fr h₀ L s.heap m₀) (hJ : J n₀ m₀ s.heap)
    (turn : ∀ n m₁ h tk, Fr h₀ L h m₁ → J n m₁ h →
      wpAny (model prog w) A (isTrue test env (eval test env)) (fun b s₂ =>
        if b = true then wpAny (model prog w) A (execs wbody env) (fun f s₃ => match f with
          | .ret v => Q (.ret v) s₃
          | .brk => Q .next s₃
          | _ => WhileOn h₀ L s J n s₃) E s₂
        else Q .next s₂) E { s with heap := h, toks := tk })
    (hE : PassesOwn (model prog w) A env E := by passes_own) :
    wpAny (model prog w) A (exec (.While test wbody [] pos) env) Q E s := by
  refine wpAny_While (codeAny_whileLoop (fun n s' => ∃ h tk m₁, s' = { s with heap := h, toks := tk } ∧ Fr h₀ L h m₁ ∧ J n m₁ h) ?_ n₀ ⟨s.heap, s.toks, m₀, rfl, F, hJ⟩)
  rintro n s' ⟨h, tk, m₁, rfl, F₁, J₁⟩
  refine wpAny_mono (turn n m₁ h tk F₁ J₁) (fun b s₂ h₂ => ?_) hE
  cases b with
  | false =>
    simp only [Bool.false_eq_true, if_false] at h₂ ⊢
    exact wpAny_execs_nil h₂
  | true =>
    simp only [if_true] at h₂ ⊢
    refine wpAny_mono h₂ (fun f s₃ h₃ => ?_) hE
    cases f with
    | next =>
      obtain ⟨h', tk', m', n', e, F', hn, J'⟩ := h₃
      exact ⟨n', hn, h', tk', m', e, F', J'⟩
    | cont =>
      obtain ⟨h', tk', m', n', e, F', hn, J'⟩ := h₃
      exact ⟨n', hn, h', tk', m', e, F', J'⟩
    | brk => exact h₃
    | ret v => exact h₃
end
end Mine

namespace Mine
/-- the end of a turn of a tested comprehension -/
def TakenIs (tb : Bool) (want : Bool) (i : Nat) (news : List (Addr × Obj)) (y : Value) (news' : List (Addr × Obj)) : Prop := news' = news ∧ tb = want ∧ (want = true → ∃ t, y = .int (i : Int) t)
section
variable {prog : Program} {w : World} {A : Around} {h₀ : Heap} {L : Addr} {m : Str → Option Value} {env : Env} {ct elt : Expr} {x : Str} {scope : Scope} {cl : List (Str × Addr)} {s : Shared} {Fin : List Value → List (Addr × Obj) → Prop} {news : List (Addr × Obj)}
theorem filter_rest {n : Nat} (tb : Nat → Bool)
    (turn : ∀ (i : Nat) t I oI C oC D m₂ ys h tk (E' : Value → Shared → Prop), i < n → LCg.NsObj oC m₂ → m₂ x = some (.int ((0 : Int) + (i : Int)) t) → Fr h₀ L h m → News h₀ L h ((I, oI) :: (C, oC) :: (D, LCg.lst ys) :: news) → LCg.Off3 I C D news → ((@Ne Nat I C) ∧ (@Ne Nat I D) ∧ (@Ne Nat C D)) →
      wpAny (model prog w) A (isTrue ct (compEnvC scope cl C env) (eval ct (compEnvC scope cl C env))) (fun ok s' => if ok = true then
        wpAny (model prog w) A (eval elt (compEnvC scope cl C env)) (LCg.CompEnd h₀ L m { s with heap := h, toks := tk } I oI C oC D (LCg.lst ys) (fun _ => True) (TakenIs (tb i) true i news)) E' s'
        else LCg.CompEnd h₀ L m { s with heap := h, toks := tk } I oI C oC D (LCg.lst ys) (fun _ => True) (TakenIs (tb i) false i news) Value.none s') E' { s with heap := h, toks := tk })
    (fin : ∀ ys, IntsAre ys (((List.range n).filter tb).map fun (k : Nat) => (k : Int)) → Fin ys news) :
    LCt.CompRestT prog w A h₀ L m env ct elt x scope cl s (fun _ => True) (fun i v => ∃ t, v = .int ((0 : Int) + (i : Int)) t) Fin n 0 [] news := by
  have key : ∀ (j i : Nat) (ys : List Value), i + j = n → IntsAre ys (((List.range i).filter tb).map fun (k : Nat) => (k : Int)) →
      LCt.CompRestT prog w A h₀ L m env ct elt x scope cl s (fun _ => True) (fun i v => ∃ t, v = .int ((0 : Int) + (i : Int)) t) Fin j i ys news := by
    intro j
    induction j with
    | zero =>
      intro i ys hi hy
      have e : i = n := by omega
      subst e
      exact LCt.CompRestT.zero (fin ys hy)
    | succ j ih =>
      intro i ys hi hy
      refine LCt.CompRestT.succ ?_
      rintro v I oI C oC D m₂ h tk E' ⟨t, rfl⟩ hC hx F N off ne
      refine wpAny_mono (turn i t I oI C oC D m₂ ys h tk E' (by omega) hC hx F N off ne) (fun ok s₁ hq => ?_) fun _ _ e => e
      cases ok with
      | true =>
        simp only [if_true] at hq ⊢
        refine wpAny_mono hq (fun y s₂ hq => ?_) fun _ _ e => e
        obtain ⟨h', tk', nw, e, F', N', off', hS, hn, ht, hy'⟩ := hq
        obtain ⟨t', rfl⟩ := hy' rfl
        subst hn
        refine ⟨h', tk', nw, e, F', N', off', hS, ih (i + 1) _ (by omega) ?_⟩
        rw [List.range_succ, List.filter_append, List.map_append]
        have e1 : [i].filter tb = [i] := by simp [ht]
        rw [e1]
        simpa using IntsAre.append hy (.cons (i : Int) t' .nil)
      | false =>
        simp only [Bool.false_eq_true, if_false] at hq ⊢
        obtain ⟨h', tk', nw, e, F', N', off', hS, hn, ht, -⟩ := hq
        subst hn
        refine ⟨h', tk', nw, e, F', N', off', hS, ih (i + 1) _ (by omega) ?_⟩
        rw [List.range_succ, List.filter_append, List.map_append]
        have e1 : [i].filter tb = [] := by simp [ht]
        rw [e1]
        simpa using hy
  exact key n 0 [] (by omega) .nil
end
end Mine

namespace Mine
/-- the order of two pairs -/
def pairLt (l1 c1 l2 c2 : Int) : Bool := if l1 = l2 then decide (c1 < c2) else decide (l1 < l2)
section
variable {prog : Program} {w : World} {A : Around} {E : Value → Shared → Prop} {s : Shared} {a b : Addr} {l1 c1 l2 c2 : Int} {t1 t2 t3 t4 : Tok}
set_option maxHeartbeats 2000000 in
theorem tup_lt_run {R : Result → Shared → Prop} (Ha : IsTup s.heap a #[.int l1 t1, .int c1 t2]) (Hb : IsTup s.heap b #[.int l2 t3, .int c2 t4])
    (h : R (.ok (.ret (.bool (pairLt l1 c1 l2 c2)))) s) :
    wpAny (model prog w) A.in1 (Builtin.«tuple.__lt__» ⟨[.ref a, .ref b], []⟩) (fun fin s' => ∃ v, fin = Fin.done (Flow.ret v) ∧ R (Except.ok (Flow.ret v)) s') (fun e s' => R (Except.error e) s') s := by
  obtain ⟨oa, hoa, hca, na, hda⟩ := Ha
  obtain ⟨ob, hob, hcb, nb, hdb⟩ := Hb
  have hT : s.TypeIs (.ref b) "tuple" := ⟨_, hob, hcb⟩
  have hs := KPt.sub_tt
  obtain ⟨hh, g, d, t, os⟩ := s
  obtain ⟨ca, da, dta, sla⟩ := oa
  obtain ⟨cb, db, dtb, slb⟩ := ob
  dsimp only at hca hda hcb hdb
  subst hca hda hcb hdb
  by_cases hl : l1 = l2
  · have el : (l1 == l2) = true := by simpa using hl
    by_cases hc : c1 = c2
    · have ec : (c1 == c2) = true := by simpa using hc
      have e : pairLt l1 c1 l2 c2 = false := by simp [pairLt, hl, hc]
      rw [e] at h
      repeat (first | ((with_reducible show wpAny _ _ (eqBool (Value.int _ _) (Value.int _ _)) _ _ _); refine SeqAt.EqAt.int_int _ _ _ _ _ _ _ _ ?_) | wp_step)
      exact ⟨_, rfl, h⟩
    · have ec : (c1 == c2) = false := by simpa using hc
      have e : pairLt l1 c1 l2 c2 = decide (c1 < c2) := by simp [pairLt, hl]
      rw [e] at h
      repeat (first | ((with_reducible show wpAny _ _ (eqBool (Value.int _ _) (Value.int _ _)) _ _ _); refine SeqAt.EqAt.int_int _ _ _ _ _ _ _ _ ?_) | ((with_reducible show wpAny _ _ (richCompare CmpOp.Lt (Value.int _ _) (Value.int _ _)) _ _ _); refine (lt_int ?_ : wpAny _ _ (compareOp .Lt _ _) _ _ _)) | wp_step)
      exact ⟨_, rfl, h⟩
  · have el : (l1 == l2) = false := by simpa using hl
    have e : pairLt l1 c1 l2 c2 = decide (l1 < l2) := by simp [pairLt, hl]
    rw [e] at h
    repeat (first | ((with_reducible show wpAny _ _ (eqBool (Value.int _ _) (Value.int _ _)) _ _ _); refine SeqAt.EqAt.int_int _ _ _ _ _ _ _ _ ?_) | ((with_reducible show wpAny _ _ (richCompare CmpOp.Lt (Value.int _ _) (Value.int _ _)) _ _ _); refine (lt_int ?_ : wpAny _ _ (compareOp .Lt _ _) _ _ _)) | wp_step)
    exact ⟨_, rfl, h⟩
theorem tup_lt {Q : Value → Shared → Prop} (Ha : IsTup s.heap a #[.int l1 t1, .int c1 t2]) (Hb : IsTup s.heap b #[.int l2 t3, .int c2 t4]) (hu : A.units < cLine) (h : Q (.bool (pairLt l1 c1 l2 c2)) s) :
    wpAny (model prog w) A (compareOp .Lt (.ref a) (.ref b)) Q E s := by
  have Ta : s.TypeIs (.ref a) "tuple" := by obtain ⟨o, ho, hc, _⟩ := Ha; exact ⟨o, ho, hc⟩
  have Tb : s.TypeIs (.ref b) "tuple" := by obtain ⟨o, ho, hc, _⟩ := Hb; exact ⟨o, ho, hc⟩
  refine (richCompare_meets_room (S := fun A R s' => s' = s ∧ R (.ok (.ret (.bool (pairLt l1 c1 l2 c2)))) s) Ta Tb PySem.F.slot_tuple_lt PySem.F.entry_tuple_lt (PySem.F.args_tuple_lt_2 _ _) (Meets.of_wp ?_) ⟨rfl, ⟨(fun e => nomatch e), h⟩⟩ hu : wpAny _ _ (richCompare .Lt _ _) _ _ _)
  rintro prog w A R s' ⟨rfl, hR⟩
  exact tup_lt_run Ha Hb hR
set_option maxHeartbeats 2000000 in
theorem tup_gt_run {R : Result → Shared → Prop} (Ha : IsTup s.heap a #[.int l1 t1, .int c1 t2]) (Hb : IsTup s.heap b #[.int l2 t3, .int c2 t4])
    (h : R (.ok (.ret (.bool (pairLt l2 c2 l1 c1)))) s) :
    wpAny (model prog w) A.in1 (Builtin.«tuple.__gt__» ⟨[.ref a, .ref b], []⟩) (fun fin s' => ∃ v, fin = Fin.done (Flow.ret v) ∧ R (Except.ok (Flow.ret v)) s') (fun e s' => R (Except.error e) s') s := by
  obtain ⟨oa, hoa, hca, na, hda⟩ := Ha
  obtain ⟨ob, hob, hcb, nb, hdb⟩ := Hb
  have hT : s.TypeIs (.ref b) "tuple" := ⟨_, hob, hcb⟩
  have hs := KPt.sub_tt
  obtain ⟨hh, g, d, t, os⟩ := s
  obtain ⟨ca, da, dta, sla⟩ := oa
  obtain ⟨cb, db, dtb, slb⟩ := ob
  dsimp only at hca hda hcb hdb
  subst hca hda hcb hdb
  by_cases hl : l1 = l2
  · have el : (l1 == l2) = true := by simpa using hl
    by_cases hc : c1 = c2
    · have ec : (c1 == c2) = true := by simpa using hc
      have e : pairLt l2 c2 l1 c1 = false := by simp [pairLt, hl, hc]
      rw [e] at h
      repeat (first | ((with_reducible show wpAny _ _ (eqBool (Value.int _ _) (Value.int _ _)) _ _ _); refine SeqAt.EqAt.int_int _ _ _ _ _ _ _ _ ?_) | wp_step)
      exact ⟨_, rfl, h⟩
    · have ec : (c1 == c2) = false := by simpa using hc
      have e : pairLt l2 c2 l1 c1 = decide (c2 < c1) := by simp [pairLt, hl]
      rw [e] at h
      repeat (first | ((with_reducible show wpAny _ _ (eqBool (Value.int _ _) (Value.int _ _)) _ _ _); refine SeqAt.EqAt.int_int _ _ _ _ _ _ _ _ ?_) | ((with_reducible show wpAny _ _ (richCompare CmpOp.Gt (Value.int _ _) (Value.int _ _)) _ _ _); refine (gt_int ?_ : wpAny _ _ (compareOp .Gt _ _) _ _ _)) | wp_step)
      exact ⟨_, rfl, h⟩
  · have el : (l1 == l2) = false := by simpa using hl
    have e : pairLt l2 c2 l1 c1 = decide (l2 < l1) := by simp [pairLt, hl, Ne.symm hl]
    rw [e] at h
    repeat (first | ((with_reducible show wpAny _ _ (eqBool (Value.int _ _) (Value.int _ _)) _ _ _); refine SeqAt.EqAt.int_int _ _ _ _ _ _ _ _ ?_) | ((with_reducible show wpAny _ _ (richCompare CmpOp.Gt (Value.int _ _) (Value.int _ _)) _ _ _); refine (gt_int ?_ : wpAny _ _ (compareOp .Gt _ _) _ _ _)) | wp_step)
    exact ⟨_, rfl, h⟩
theorem tup_gt {Q : Value → Shared → Prop} (Ha : IsTup s.heap a #[.int l1 t1, .int c1 t2]) (Hb : IsTup s.heap b #[.int l2 t3, .int c2 t4]) (hu : A.units < cLine) (h : Q (.bool (pairLt l2 c2 l1 c1)) s) :
    wpAny (model prog w) A (compareOp .Gt (.ref a) (.ref b)) Q E s := by
  have Ta : s.TypeIs (.ref a) "tuple" := by obtain ⟨o, ho, hc, _⟩ := Ha; exact ⟨o, ho, hc⟩
  have Tb : s.TypeIs (.ref b) "tuple" := by obtain ⟨o, ho, hc, _⟩ := Hb; exact ⟨o, ho, hc⟩
  refine (richCompare_meets_room (S := fun A R s' => s' = s ∧ R (.ok (.ret (.bool (pairLt l2 c2 l1 c1)))) s) Ta Tb PySem.F.slot_tuple_gt PySem.F.entry_tuple_gt (PySem.F.args_tuple_gt_2 _ _) (Meets.of_wp ?_) ⟨rfl, ⟨(fun e => nomatch e), h⟩⟩ hu : wpAny _ _ (richCompare .Gt _ _) _ _ _)
  rintro prog w A R s' ⟨rfl, hR⟩
  exact tup_gt_run Ha Hb hR
end
end Mine

namespace Mine

local macro_rules | `(tactic| walk_at "compareOp Gt") => `(tactic| (k_here; (with_reducible show wpAny _ _ (compareOp CmpOp.Gt (Value.ref _) (Value.ref _)) _ _ _); (refine tup_gt (IsTup.keeps (by assumption) (Fr.keep (by k_asm))) (IsTup.keeps (by assumption) (Fr.keep (by k_asm))) (by k_units) ?_)))
local macro_rules | `(tactic| walk_at "compareOp Lt") => `(tactic| (k_here; (with_reducible show wpAny _ _ (compareOp CmpOp.Lt (Value.ref _) (Value.ref _)) _ _ _); (refine tup_lt (IsTup.keeps (by assumption) (Fr.keep (by k_asm))) (IsTup.keeps (by assumption) (Fr.keep (by k_asm))) (by k_units) ?_)))
section
variable {w : World} {A₀ : Around} {base h₀ : Heap} {e1 e2 e3 : Env} {L : Addr} {m mg mb : Str → Option Value} {p : Program} {loose : List Str} {mean : ExcName → Option Value} {s : Shared} {place : Int} {tk : Tok} {Q : Value → Shared → Prop} {E : Value → Shared → Prop}
set_option maxHeartbeats 8000000 in
theorem cmp_call {a b : Addr} {l1 c1 l2 c2 : Int} {t1 t2 t3 t4 : Tok} :
   (hd.heap_39 w.params).In h₀ → Below A₀ base [e2, e1] h₀ → Fr h₀ L s.heap m → Top p loose mean mg mb h₀ → IsTup s.heap a #[.int l1 t1, .int c1 t2] → IsTup s.heap b #[.int l2 t3, .int c2 t4] → e3.frame = some L → e3.scope.kind = .function →
   (∀ h' tk t, (∀ b o, s.heap.get? b = some o → h'.get? b = some o) → Q (.int (b2i (pairLt l2 c2 l1 c1) - b2i (pairLt l1 c1 l2 c2)) t) { s with heap := h', toks := tk }) →
   wpAny (model Challenge.rw_mr0022_01.row.prog w) (((callerA.deeper e1).deeper e2).deeper e3) (call (.ref 35) [.ref a, .ref b]) Q E s := by
  k_fill
  intro X B F T Ha Hb hf hke hQ
  refine wpAny_call ?_
  (refine' enter_top (news := []) B F X ?N T ?kA hf hke ?k6 ?k7 ?k8 ?k9 ?kB ?_ ?c5 ?c2 ?c3 ?c4; (case N => exact fun q hq => nomatch hq); (case kA => exact rfl); (case k6 => k_is); (case k7 => k_is); (case k8 => k_room); (case k9 => exact BindsTo.of_eq rfl); (case kB => exact locs rfl); (case c2 => exact rfl); (case c3 => exact rfl); (case c4 => exact rfl); (case c5 => decide); k_whole)
  intro g' L' h' hg hL' F' N' B' X' T' _
  have Ga : IsTup g' a #[.int l1 t1, .int c1 t2] := by obtain ⟨o, ho, r⟩ := Ha; exact ⟨o, hg _ _ ho (fun q => nomatch q), r⟩
  have Gb : IsTup g' b #[.int l2 t3, .int c2 t4] := by obtain ⟨o, ho, r⟩ := Hb; exact ⟨o, hg _ _ ho (fun q => nomatch q), r⟩
  clear Ha Hb
  try dsimp only
  w_strict k_steps
  exact hQ _ _ _ (fun b o e => F'.keep b o (hg b o e (fun q => nomatch q)))
end
end Mine

namespace Mine

/-- the parts of the def of search inside _law_prog, as the text has them -/
def searchParts : Arguments × List Stmt × Scope := match (PySem.Challenge.rw_mr0022_01.prog.main.body)[7]? with
  | some (Stmt.FunctionDef _ _ (Stmt.FunctionDef _ ps b _ _ _ sc _ _ _ :: _) _ _ _ _ _ _ _) => (ps, b, sc)
  | _ => (⟨[], [], none, [], [], none, []⟩, [], ⟨.module, [], false, false, []⟩)
/-- sf is that def, made with answers at an -/
def SearchFn (h : Heap) (sf an : Addr) : Prop :=
  ∃ ps b sc c dv doc pm c' ctv oc t, searchParts = (ps, b, sc) ∧ (66 : Nat) < sf ∧ (66 : Nat) < c ∧ (66 : Nat) < dv ∧ (66 : Nat) < c' ∧
    h.get? sf = some (kdv_obj "search" "_law_prog.<locals>.search" ps (.stmts b) sc [("answers", c)] (.ref dv) doc pm c' ctv) ∧
    h.get? dv = some (kdv_tup [.int 0 t]) ∧ h.get? c = some oc ∧ oc.data = .cell (some (.ref an)) ∧ h.CodeRec (.ref c') "_law_prog.<locals>.search"
def ProgOk (h : Heap) (f an : Addr) : Prop :=
  ∃ d fd sl hsh t sf, (66 : Nat) < f ∧ (66 : Nat) < d ∧ h.get? f = some ⟨.type "function", some d, .func fd, sl⟩ ∧ h.get? d = some (oneDict hsh "search" t (.ref sf)) ∧ SearchFn h sf an
def ProgTab (own : List (Addr × Obj)) (ps : Array Value) : Prop :=
  ps = #[] ∨ ∃ c1 c2, ps = #[rawInt (30 : Nat), rawInt (4 : Nat), .ref c1, rawInt (35 : Nat), rawInt (11 : Nat), .ref c2] ∧ CodeIs own c1 "_law_prog.<locals>.search" ∧ CodeIs own c2 "_law_prog.<locals>.<lambda>"
theorem SearchFn.keep {h h' : Heap} {sf an : Addr} (x : SearchFn h sf an) (k : Keep2 h h') : SearchFn h' sf an := by
  obtain ⟨ps, b, sc, c, dv, doc, pm, c', ctv, oc, t, e, n1, n2, n3, n4, h1, h2, h3, h4, h5⟩ := x
  exact ⟨ps, b, sc, c, dv, doc, pm, c', ctv, oc, t, e, n1, n2, n3, n4, k _ _ (ne37 n1) (ne44 n1) h1, k _ _ (ne37 n3) (ne44 n3) h2, k _ _ (ne37 n2) (ne44 n2) h3, h4, codeRec_keep2 h5 k (ne37 n4) (ne44 n4)⟩
theorem ProgOk.keep {h h' : Heap} {f an : Addr} (x : ProgOk h f an) (k : Keep2 h h') : ProgOk h' f an := by
  obtain ⟨d, fd, sl, hsh, t, sf, n1, n2, h1, h2, h3⟩ := x
  exact ⟨d, fd, sl, hsh, t, sf, n1, n2, k _ _ (ne37 n1) (ne44 n1) h1, k _ _ (ne37 n2) (ne44 n2) h2, h3.keep k⟩
local macro_rules | `(tactic| walk_at "setAttr ref") => `(tactic| (k_here; k_dflt (refine' set_fnK ?FS ?F ?N ?U ?_; (case FS => exact fun s Q a b => fn_set a (by first | exact lk_fn_span | exact lk_fn_search) b); (case F => k_asm); (case N => k_asm); (case U => k_updF); k_whole); intro d' h' tk' hs' t2' F' N' l1; (try dsimp only at N'); (try k_lt l1); (try k_sweep)))

section
variable {w : World} {A₀ : Around} {base h₀ : Heap} {e1 : Env} {L an : Addr} {m mg mb : Str → Option Value} {p : Program} {loose : List Str} {mean : ExcName → Option Value} {s : Shared} {lo : Nat} {Q : Value → Shared → Prop} {E : Value → Shared → Prop}
set_option maxHeartbeats 8000000 in
theorem prog_empty :
   (hd.heap_39 w.params).In h₀ → Below A₀ base [] h₀ → Fr h₀ L s.heap m → Top p loose mean mg mb h₀ → News h₀ L s.heap [(44, tabObj #[])] → CodeHd base 48 44 → e1.frame = some L → e1.scope.kind = .function → 66 ≤ lo → @LE.le Nat _ lo L →
   (∀ h' tk f ps ownP, Heap.ExtBut 44 s.heap h' → h'.get? 44 = some (tabObj ps) → Has h' ownP → NoDict lo ownP → ProgTab ownP ps → ProgOk h' f an → s.heap.get? f = none → Q (.ref f) { s with heap := h', toks := tk }) →
   wpAny (model Challenge.rw_mr0022_01.row.prog w) (callerA.deeper e1) (call (.ref 49) [.ref an]) Q E s := by
  k_fill
  intro X B F T N C hf hke hlo hlL hQ
  have hLs : @LT.lt Nat _ L s.heap.objs.size := F.ns.lt
  refine wpAny_call ?_
  (refine' enter_cells B F X N T ?kA hf hke ?k6 ?k7 ?k8 ?k9 ?kB ?kD ?_ ?c2 ?c3 ?c4; (case kA => exact rfl);  (case k6 => k_is); (case k7 => k_is); (case k8 => k_room); (case k9 => exact BindsTo.of_eq rfl); (case kB => exact rfl); (case kD => decide +kernel); (case c2 => exact rfl); (case c3 => exact rfl); (case c4 => exact rfl); k_whole; intro g' L' h' tk' cells' hg hL' F' N' Y' B' X' T' l1; (try k_lt l1); k_cells Y'; (try simp only [List.cons_append, List.nil_append] at N'); (try dsimp only); (try k_lift B'); (try k_fold))
  have hbig : @LT.lt Nat _ lo L' := by omega
  w_strict k_steps
  rename Fr _ _ _ _ => F'
  rename News _ _ _ _ => N'
  rename Obj.data _ = Data.cell _ => hdC
  have ext : Heap.ExtBut 44 s.heap _ := fun b o hb e => F'.keep b o (hg b o e (by simpa using hb))
  have new : ∀ q, g'.get? q = none → @LT.lt Nat _ lo q → s.heap.get? q = none := fun q e hq => fresh_of hg e (by simp only [List.map_cons, List.map_nil, List.mem_singleton]; exact fun z => absurd hq (by rw [z]; exact Nat.not_lt.mpr (by omega)))
  have hff := (N' (_, Obj.mk (.type "function") (some _) (.func _) _) (by k_mem))
  have hc2 := (N' _ (List.Mem.tail _ (List.Mem.tail _ (List.Mem.head _))))
  have hc1 := (N' _ (List.Mem.tail _ (List.Mem.tail _ (List.Mem.tail _ (List.Mem.tail _ (List.Mem.head _))))))
  have nd : ∀ (o : Obj) (vs : Array Value), o.data = .fields vs → ∀ es n, o.data ≠ .dict es n := fun o vs e es n z => by rw [e] at z; cases z
  have y1 := (N' (_, kdv_obj _ _ _ _ _ _ _ _ _ _ _) (List.Mem.tail _ (List.Mem.tail _ (List.Mem.tail _ (List.Mem.head _))))).1
  refine hQ _ _ _ _ [_, _] ext (N' (44, tabObj _) (by k_mem)).1 (List.forall_mem_cons.mpr ⟨hc2.1, List.forall_mem_cons.mpr ⟨hc1.1, List.forall_mem_nil _⟩⟩) ?_ (.inr ⟨_, _, rfl, ?_, ?_⟩) ?_ (new _ hff.2.2 (by omega))
  · exact List.forall_mem_cons.mpr ⟨⟨ltN (by omega), nd _ _ (by assumption)⟩, List.forall_mem_cons.mpr ⟨⟨ltN (by omega), nd _ _ (by assumption)⟩, List.forall_mem_nil _⟩⟩
  · exact ⟨_, _, _, List.Mem.tail _ (List.Mem.head _), by assumption, by assumption⟩
  · exact ⟨_, _, _, List.Mem.head _, by assumption, by assumption⟩
  · refine ⟨_, _, _, _, _, _, ltN (by omega), ltN (by omega), hff.1, (N' _ (List.Mem.head _)).1, ?_⟩
    have y2 := (N' (_, kdv_tup _) (by k_mem)).1
    have y3 := (N' (L' + 1, _) (by k_mem)).1
    refine ⟨_, _, _, _, _, _, _, _, _, _, _, rfl, ?_, ?_, ?_, ?_, y1, y2, y3, hdC, codeRec_news N' (by k_mem) (by assumption) (by assumption)⟩
    all_goals exact ltN (by omega)
set_option maxHeartbeats 8000000 in
theorem prog_full {c1 c2 : Addr} {ownP : List (Addr × Obj)} :
   (hd.heap_39 w.params).In h₀ → Below A₀ base [] h₀ → Fr h₀ L s.heap m → Top p loose mean mg mb h₀ → News h₀ L s.heap [(44, tabObj #[rawInt (30 : Nat), rawInt (4 : Nat), .ref c1, rawInt (35 : Nat), rawInt (11 : Nat), .ref c2])] → Has s.heap ownP → NoDict lo ownP → CodeIs ownP c1 "_law_prog.<locals>.search" → CodeIs ownP c2 "_law_prog.<locals>.<lambda>" → CodeHd base 48 44 → e1.frame = some L → e1.scope.kind = .function → 66 ≤ lo → @LE.le Nat _ lo L →
   (∀ h' tk f ps ownP, Heap.ExtBut 44 s.heap h' → h'.get? 44 = some (tabObj ps) → Has h' ownP → NoDict lo ownP → ProgTab ownP ps → ProgOk h' f an → s.heap.get? f = none → Q (.ref f) { s with heap := h', toks := tk }) →
   wpAny (model Challenge.rw_mr0022_01.row.prog w) (callerA.deeper e1) (call (.ref 49) [.ref an]) Q E s := by
  k_fill
  intro X B F T N hT nT r1 r2 C hf hke hlo hlL hQ
  have hLs : @LT.lt Nat _ L s.heap.objs.size := F.ns.lt
  refine wpAny_call ?_
  (refine' enter_cells B F X N T ?kA hf hke ?k6 ?k7 ?k8 ?k9 ?kB ?kD ?_ ?c2 ?c3 ?c4; (case kA => exact rfl);  (case k6 => k_is); (case k7 => k_is); (case k8 => k_room); (case k9 => exact BindsTo.of_eq rfl); (case kB => exact rfl); (case kD => decide +kernel); (case c2 => exact rfl); (case c3 => exact rfl); (case c4 => exact rfl); k_whole; intro g' L' h' tk' cells' hg hL' F' N' Y' B' X' T' l1; (try k_lt l1); k_cells Y'; (try simp only [List.cons_append, List.nil_append] at N'); (try dsimp only); (try k_lift B'); (try k_fold))
  have hbig : @LT.lt Nat _ lo L' := by omega
  w_strict k_steps
  rename Fr _ _ _ _ => F'
  rename News _ _ _ _ => N'
  rename Obj.data _ = Data.cell _ => hdC
  have ext : Heap.ExtBut 44 s.heap _ := fun b o hb e => F'.keep b o (hg b o e (by simpa using hb))
  have new : ∀ q, g'.get? q = none → @LT.lt Nat _ lo q → s.heap.get? q = none := fun q e hq => fresh_of hg e (by simp only [List.map_cons, List.map_nil, List.mem_singleton]; exact fun z => absurd hq (by rw [z]; exact Nat.not_lt.mpr (by omega)))
  have hff := (N' (_, Obj.mk (.type "function") (some _) (.func _) _) (by k_mem))
  have hT' : Has _ ownP := hT.ext ext (fun q hq => (nT q hq).1) (by omega)
  have hc1 : 66 < c1 := by obtain ⟨o1, _, _, m1, _⟩ := r1; have := (nT _ m1).1; exact Nat.lt_of_le_of_lt hlo this
  have y1 := (N' (_, kdv_obj _ _ _ _ _ _ _ _ _ _ _) (List.Mem.tail _ (List.Mem.tail _ (List.Mem.head _)))).1
  refine hQ _ _ _ _ ownP ext (N' (44, tabObj _) (by k_mem)).1 hT' nT (.inr ⟨c1, c2, rfl, r1, r2⟩) ?_ (new _ hff.2.2 (by omega))
  · refine ⟨_, _, _, _, _, _, ltN (by omega), ltN (by omega), hff.1, (N' _ (List.Mem.head _)).1, ?_⟩
    have y2 := (N' (_, kdv_tup _) (by k_mem)).1
    have y3 := (N' (L' + 1, _) (by k_mem)).1
    refine ⟨_, _, _, _, _, _, _, _, _, _, _, rfl, ?_, ?_, ?_, ?_, y1, y2, y3, hdC, CodeIs.rec r1 hT'⟩
    all_goals exact ltN (by omega)

/-- the contract of _law_prog -/
theorem prog_call {ps : Array Value} {ownP : List (Addr × Obj)} (X : (hd.heap_39 w.params).In h₀) (B : Below A₀ base [] h₀) (F : Fr h₀ L s.heap m) (T : Top p loose mean mg mb h₀) (N : News h₀ L s.heap [(44, tabObj ps)]) (hT : Has s.heap ownP) (nT : NoDict lo ownP) (H : ProgTab ownP ps) (C : CodeHd base 48 44) (hf : e1.frame = some L) (hke : e1.scope.kind = .function) (hlo : 66 ≤ lo) (hlL : @LE.le Nat _ lo L)
    (hQ : ∀ h' tk f ps ownP, Heap.ExtBut 44 s.heap h' → h'.get? 44 = some (tabObj ps) → Has h' ownP → NoDict lo ownP → ProgTab ownP ps → ProgOk h' f an → s.heap.get? f = none → Q (.ref f) { s with heap := h', toks := tk }) :
    wpAny (model Challenge.rw_mr0022_01.row.prog w) (callerA.deeper e1) (call (.ref 49) [.ref an]) Q E s := by
  rcases H with rfl | ⟨c1, c2, rfl, r1, r2⟩
  · exact prog_empty X B F T N C hf hke hlo hlL hQ
  · exact prog_full X B F T N hT nT r1 r2 C hf hke hlo hlL hQ
end
end Mine

namespace Mine

/-- a row of places at rw, one for each number -/
def RowAt (h : Heap) (rw : Addr) (nums : List Int) : Prop :=
  ∃ vs : List Value, h.IsList rw vs.toArray ∧ vs.length = nums.length ∧ ∀ (i : Nat) (n : Int), nums[i]? = some n → ∃ (a : Addr) (t1 t2 : Tok), vs[i]? = some (Value.ref a) ∧ IsTup h a #[.int (n.fdiv 100) t1, .int (n.fmod 100) t2]
theorem RowAt.keep {h h' : Heap} {rw : Addr} {nums : List Int} (R : RowAt h rw nums) (k : ∀ b o, o.cls ≠ .none → h.get? b = some o → h'.get? b = some o) : RowAt h' rw nums := by
  obtain ⟨vs, ⟨o, ho, hc, r⟩, hvl, hvi⟩ := R
  refine ⟨vs, ⟨o, k _ _ (by rw [hc]; exact fun q => nomatch q) ho, hc, r⟩, hvl, fun i n e => ?_⟩
  obtain ⟨a, t1, t2, e1, o, ho, hc, r⟩ := hvi i n e
  exact ⟨a, t1, t2, e1, o, k _ _ (by rw [hc]; exact fun q => nomatch q) ho, hc, r⟩
/-- three_way_cmp of two numbers -/
def sg (x y : Int) : Int := if y < x then 1 else if x < y then -1 else 0
theorem pair_lt (x y : Int) : pairLt (x.fdiv 100) (x.fmod 100) (y.fdiv 100) (y.fmod 100) = decide (x < y) := by
  have h1 := Int.mul_fdiv_add_fmod x 100
  have h2 := Int.mul_fdiv_add_fmod y 100
  have h3 := Int.fmod_nonneg_of_pos x (show (0 : Int) < 100 by decide)
  have h4 := Int.fmod_nonneg_of_pos y (show (0 : Int) < 100 by decide)
  have h5 := Int.fmod_lt_of_pos x (show (0 : Int) < 100 by decide)
  have h6 := Int.fmod_lt_of_pos y (show (0 : Int) < 100 by decide)
  unfold pairLt
  split
  · rw [decide_eq_decide]; omega
  · rw [decide_eq_decide]; omega
theorem pair_sg (x y : Int) : b2i (pairLt (y.fdiv 100) (y.fmod 100) (x.fdiv 100) (x.fmod 100)) - b2i (pairLt (x.fdiv 100) (x.fmod 100) (y.fdiv 100) (y.fmod 100)) = sg x y := by
  rw [pair_lt, pair_lt]
  unfold sg b2i
  by_cases h1 : y < x
  · have h2 : ¬ x < y := by omega
    simp [h1, h2]
  · by_cases h2 : x < y
    · simp [h1, h2]
    · simp [h1, h2]
theorem inNums_iff (k : Int) : ∀ l : List Int, KTD.inNums k l = true ↔ k ∈ l
  | [] => by simp [KTD.inNums]
  | x :: r => by simp [KTD.inNums, inNums_iff k r]
theorem inNums_no (k : Int) (l : List Int) : KTD.inNums k l = false ↔ k ∉ l := by
  rw [← inNums_iff]
  simp
/-- may a search that is asked at j stop at p -/
def okAt (nums ans : List Int) (j p : Nat) : Prop := j = 0 ∨ sg (nums.getD p 0) (nums.getD (j - 1) 0) ∈ ans
/-- what a search at j gives -/
def SearchRes (w : World) (lo : Nat) (h h' : Heap) (nums ans : List Int) (j : Nat) (v : Value) : Prop :=
  (v = .none ∧ ∀ p, j ≤ p → p < nums.length → ¬ okAt nums ans j p) ∨
  ∃ f p own, v = .ref f ∧ j ≤ p ∧ p < nums.length ∧ okAt nums ans j p ∧ (∀ p', j ≤ p' → p' < p → ¬ okAt nums ans j p') ∧ Has h' own ∧ OwnOk lo h own ∧ HitBy w own f p
theorem OwnOk.back {lo : Nat} {h h' : Heap} {own : List (Addr × Obj)} (x : OwnOk lo h' own) (k : Heap.ExtBut 37 h h') (hlo : 66 ≤ lo) : OwnOk lo h own := fun q hq => ⟨(x q hq).1, (x q hq).2.imp (fun e => by
  cases z : h.get? q.1 with
  | none => rfl
  | some o =>
    have h37 : q.1 ≠ 37 := fun y => absurd (x q hq).1 (by rw [y]; exact Nat.not_lt.mpr (by omega))
    rw [k _ _ h37 z] at e
    cases e) id⟩

theorem len_row {prog : Program} {w : World} {A : Around} {E : Value → Shared → Prop} {s : Shared} {h₀ : Heap} {L l : Addr} {m : Str → Option Value} {vs : List Value} {n : Nat} {Q : Value → Shared → Prop}
    (F : Fr h₀ L s.heap m) (hl : h₀.IsList l vs.toArray) (hn : vs.length = n) (hb : n ≤ 100) (h : Q (.int (n : Int) (s.toks + 1)) { s with toks := s.toks + 1 + 1 }) :
    wpAny (model prog w) A (call (.builtin "len") [.ref l]) Q E s :=
  len_list (hl.at fun o e => F.keep _ o e) (by rw [List.size_toArray, hn]; omega) (by rw [List.size_toArray, hn]; exact h)
local macro_rules | `(tactic| walk_at "call builtin:len") => `(tactic| (k_here; (with_reducible show wpAny _ _ (call (Value.builtin "len") [Value.ref _]) _ _ _); k_dflt (refine len_row (by k_asm) (by assumption) (by assumption) (by assumption) ?_)))
/-- the walk halts here -/
def StopHere (P : Prop) : Prop := P
theorem stop_intro {P : Prop} (h : StopHere P) : P := h
local macro_rules | `(tactic| walk_at "pyIter ref") => `(tactic| (refine stop_intro ?_))

/-- an item of the row -/
theorem row_item {prog : Program} {w : World} {A : Around} {E : Value → Shared → Prop} {s : Shared} {h₀ : Heap} {L rw : Addr} {m : Str → Option Value} {nums : List Int} {value slice : PySem.Expr} {k : Int} {u : Tok} {Q : Value → Shared → Prop}
    (F : Fr h₀ L s.heap m) (R : RowAt h₀ rw nums) (hlen : nums.length ≤ 100) (h0 : 0 ≤ k) (hk : k < (nums.length : Int))
    (h : ∀ a t1 t2, IsTup h₀ a #[.int ((nums.getD k.toNat 0).fdiv 100) t1, .int ((nums.getD k.toNat 0).fmod 100) t2] → Q (.ref a) s)
    (hs : subscripted slice false (.ref rw) (.int k u) = operate [.ref rw, .int k u] (getItem (.ref rw) (.int k u)) := by with_unfolding_all rfl) :
    wpAny (model prog w) A (subscriptTail value slice (.ref rw) (.int k u)) Q E s := by
  obtain ⟨vs, hvs, hvl, hvi⟩ := R
  have hlt : k.toNat < nums.length := by omega
  obtain ⟨a, t1, t2, e, ht⟩ := hvi k.toNat _ (List.getElem?_eq_getElem hlt)
  have hg : nums.getD k.toNat 0 = nums[k.toNat] := by rw [List.getD_eq_getElem?_getD, List.getElem?_eq_getElem hlt]; rfl
  have hl : s.heap.IsList rw vs.toArray := hvs.at fun o e => F.keep _ o e
  refine tail_any hl.typeIs slot_list_getitem.lookup (wpAny_getItem_list hl h0 (by omega) (by simpa using e) (h a t1 t2 ?_)) hs
  rw [hg]
  exact ht
local macro_rules | `(tactic| walk_at "subscriptTail") => `(tactic| (k_here; (with_reducible show wpAny _ _ (subscriptTail _ _ (Value.ref _) (Value.int _ _)) _ _ _); (with_unfolding_all refine' row_item ?F ?R ?hl ?h0 ?hk ?_ ?hs; (case F => k_asm); (case R => assumption); (case hl => assumption); (case h0 => omega); (case hk => omega); (case hs => with_unfolding_all rfl)); intro a' t1' t2' ht'))

section
variable {w : World} {A₀ : Around} {base h₀ : Heap} {e1 e2 e3 : Env} {L : Addr} {m mg mb : Str → Option Value} {p : Program} {loose : List Str} {mean : ExcName → Option Value} {s : Shared} {place : Int} {tk : Tok} {Q : Value → Shared → Prop} {E : Value → Shared → Prop} {news : List (Addr × Obj)} {ps : Array Value}
theorem cmp_at {a b : Addr} {l1 c1 l2 c2 : Int} {t1 t2 t3 t4 : Tok} (X : (hd.heap_39 w.params).In h₀) (B : Below A₀ base [e2, e1] h₀) (F : Fr h₀ L s.heap m) (T : Top p loose mean mg mb h₀) (N : News h₀ L s.heap news)
   (Ha : IsTup h₀ a #[.int l1 t1, .int c1 t2]) (Hb : IsTup h₀ b #[.int l2 t3, .int c2 t4]) (hf : e3.frame = some L) (hke : e3.scope.kind = .function)
   (hQ : ∀ h' tk t, Fr h₀ L h' m → News h₀ L h' news → (∀ b o, s.heap.get? b = some o → h'.get? b = some o) → Q (.int (b2i (pairLt l2 c2 l1 c1) - b2i (pairLt l1 c1 l2 c2)) t) { s with heap := h', toks := tk }) :
   wpAny (model Challenge.rw_mr0022_01.row.prog w) (((callerA.deeper e1).deeper e2).deeper e3) (call (.ref 35) [.ref a, .ref b]) Q E s :=
  cmp_call X B F T (IsTup.keeps Ha F.keep) (IsTup.keeps Hb F.keep) hf hke fun h' tk t hk => hQ h' tk t (F.keeps hk) (N.grown hk) hk
end
local macro_rules | `(tactic| walk_at "call ref") => `(tactic| (k_here; (with_reducible show wpAny _ _ (call (Value.ref 35) [Value.ref _, Value.ref _]) _ _ _); (refine' cmp_at ?X ?B ?F ?T ?N ?ha ?hb ?hf ?hk ?_; (case X => k_asm); (case B => k_asm); (case F => k_asm); (case T => k_asm); (case N => k_asm); (case ha => assumption); (case hb => assumption); (case hf => rfl); (case hk => rfl)); intro h' tk' t' F' N' keep'; (try k_sweep)))
local macro_rules | `(tactic| walk_at "call ref") => `(tactic| (k_here; (with_reducible show wpAny _ _ (call (Value.ref 42) [Value.int _ _]) _ _ _); refine stop_intro ?_))
local macro_rules | `(tactic| walk_at "eval Name") => `(tactic| (k_here; kc_free; k_dflt (refine' nameX_G ?F ?c ?o ?d ?_ ?a ?b; (case a => rfl); (case b => rfl); (case F => k_asm); (case c => rfl); (case o => assumption); (case d => assumption); k_whole)))

section
variable {w : World} {A₀ : Around} {base h₀ : Heap} {e1 e2 : Env} {L an rw sf : Addr} {m mg mb : Str → Option Value} {p : Program} {loose : List Str} {mean : ExcName → Option Value} {s : Shared} {Q : Value → Shared → Prop} {E : Value → Shared → Prop} {nums ans : List Int} {j : Nat} {ps : Array Value} {ownT : List (Addr × Obj)} {lo : Nat}
set_option maxHeartbeats 8000000 in
theorem search_pos {tj : Tok} :
   (hd.heap_39 w.params).In h₀ → Below A₀ base [e1] h₀ → Fr h₀ L s.heap m → Top p loose mean mg mb h₀ → News h₀ L s.heap [(37, tabObj ps)] → Has s.heap ownT → NoDict lo ownT → HitTab ownT ps → CodeHd base 41 37 → e2.frame = some L → e2.scope.kind = .function → 66 ≤ lo → @LE.le Nat _ lo L →
   SearchFn s.heap sf an → RowAt s.heap rw nums → KTD.Nums s.heap an ans → j ≤ nums.length → nums.length ≤ 100 →
   (∀ h' tk v ps' ownT', Heap.ExtBut 37 s.heap h' → h'.get? 37 = some (tabObj ps') → Has h' ownT' → NoDict lo ownT' → HitTab ownT' ps' → SearchRes w lo s.heap h' nums ans j v → Q v { s with heap := h', toks := tk }) →
   wpAny (model Challenge.rw_mr0022_01.row.prog w) ((callerA.deeper e1).deeper e2) (call (.ref sf) [.ref rw, .int j tj]) Q E s := by
  k_fill
  intro X B F T N hT nT H C hf hke hlo hlL S R HA hj hlen hQ
  obtain ⟨ps', b, sc, c, dv, doc, pm, c', ctv, oc, t, e, n1, n2, n3, n4, h1, h2, h3, h4, h5⟩ := S
  cases e
  have hoff : ∀ b o, s.heap.get? b = some o → o.cls ≠ .none → b ≠ 37 := by
    rintro b o ho hc rfl
    rw [(N _ (List.Mem.head _)).1] at ho
    cases ho
    exact hc rfl
  have hLs : @LT.lt Nat _ L s.heap.objs.size := F.ns.lt
  refine wpAny_call ?_
  (refine' enter_def B F X N T ?kA hf hke h1 ?kd h5 ?k8 ?k9 ?kB ?_ ?c5 ?c2 ?c3 ?c4; (case kA => exact rfl); (case kd => exact rfl); (case k8 => k_room); (case k9 => exact BindsTo.of_defaults rfl h2 rfl rfl rfl); (case kB => exact locs rfl); (case c2 => exact rfl); (case c3 => exact rfl); (case c4 => exact rfl); (case c5 => decide); k_whole)
  intro g' L' h' hg hL' F' N' B' X' T' _
  have hG : ∀ b o, b ≠ 37 → s.heap.get? b = some o → g'.get? b = some o := fun b o hb e => hg b o e (by simpa using hb)
  have hrow : RowAt g' rw nums := R.keep fun b o hc e => hG b o (hoff b o e hc) e
  have hans : KTD.Nums g' an ans := by
    obtain ⟨avs, ⟨o, ho, hc, r⟩, hai⟩ := HA
    exact ⟨avs, ⟨o, hG _ _ (hoff _ _ ho (by rw [hc]; exact fun q => nomatch q)) ho, hc, r⟩, hai⟩
  have hcell := hG _ _ (ne37 n2) h3
  have hrow' := hrow
  obtain ⟨vs, hvs, hvl, -⟩ := hrow'
  try dsimp only
  w_strict k_steps
  unfold StopHere
  rename Fr _ _ _ _ => F₁
  rename News _ _ _ _ => N₁
  rename IsRange _ _ _ _ _ _ _ _ => R₁
  refine range_scan (fun i => ∀ p', j ≤ p' → p' < j + i → ¬ okAt nums ans j p') rfl R₁ (small_one (by omega) (by omega) (by omega) (by omega)) (rangeSize_nat _ _) F₁ N₁ (fun p' h1 h2 => absurd h2 (by omega)) ?_ ?_
  · intro i t₂ h₂ tk₂ hi hP F₂ N₂
    clear F₁ N₁ R₁
    w_strict k_steps
    all_goals (try unfold StopHere)
    · rename Fr _ _ _ _ => F₃
      rename News _ _ _ _ => N₃
      have hj0 : j = 0 := by omega
      have ext₃ : Heap.ExtBut 37 s.heap _ := fun b o hb e => F₃.keep b o (hG b o hb e)
      refine hit_call X' B' F₃ T' N₃ (hT.ext ext₃ (fun q hq => (nT q hq).1) (by omega)) nT H C rfl rfl hlo (by show @LE.le Nat _ lo L'; omega) fun h₄ tk₄ f₄ ps₄ ownT₄ own₄ e4 t4 a4 b4 k4 c4 d4 o4 => ?_
      refine hQ _ _ _ _ _ (fun b o hb e => e4 b o hb (ext₃ b o hb e)) t4 a4 b4 k4 (.inr ⟨f₄, j + i, own₄, rfl, by omega, by omega, .inl hj0, fun p' h1 h2 => hP p' h1 h2, c4, d4.back ext₃ hlo, ?_⟩)
      rw [Int.natCast_add]
      exact o4
    · rename Fr _ _ _ _ => F₃
      rename News _ _ _ _ => N₃
      rename (KTD.inNums _ _) = true => hc
      have ext₃ : Heap.ExtBut 37 s.heap _ := fun b o hb e => F₃.keep b o (hG b o hb e)
      have e1 : ((j : Int) + (i : Int)).toNat = j + i := by omega
      have e2 : ((j : Int) - 1).toNat = j - 1 := by omega
      rw [pair_sg, inNums_iff, e1, e2] at hc
      refine hit_call X' B' F₃ T' N₃ (hT.ext ext₃ (fun q hq => (nT q hq).1) (by omega)) nT H C rfl rfl hlo (by show @LE.le Nat _ lo L'; omega) fun h₄ tk₄ f₄ ps₄ ownT₄ own₄ e4 t4 a4 b4 k4 c4 d4 o4 => ?_
      refine hQ _ _ _ _ _ (fun b o hb e => e4 b o hb (ext₃ b o hb e)) t4 a4 b4 k4 (.inr ⟨f₄, j + i, own₄, rfl, by omega, by omega, .inr hc, fun p' h1 h2 => hP p' h1 h2, c4, d4.back ext₃ hlo, ?_⟩)
      rw [Int.natCast_add]
      exact o4
    · rename Fr _ _ _ _ => F₃
      rename News _ _ _ _ => N₃
      rename (KTD.inNums _ _) = false => hc
      have hj0 : j ≠ 0 := by omega
      have e1 : ((j : Int) + (i : Int)).toNat = j + i := by omega
      have e2 : ((j : Int) - 1).toNat = j - 1 := by omega
      rw [pair_sg, inNums_no, e1, e2] at hc
      refine ⟨_, _, _, rfl, fun b o hb e => by rename (∀ b o, _ → _) => kp; exact kp b o e, F₃, fun p' h1 h2 => ?_⟩
      by_cases hp : p' = j + i
      · subst hp
        rintro (h | h)
        · exact hj0 h
        · exact hc h
      · exact hP p' h1 (by omega)
  · intro u₂ h₂ tk₂ hP F₂ N₂
    clear F₁ N₁ R₁
    w_strict k_steps
    have ext₂ : Heap.ExtBut 37 s.heap _ := fun b o hb e => F₂.keep b o (hG b o hb e)
    exact hQ _ _ _ _ ownT ext₂ (N₂ _ (List.Mem.head _)).1 (hT.ext ext₂ (fun q hq => (nT q hq).1) (by omega)) nT H (.inl ⟨rfl, fun p' h1 h2 => hP p' h1 (by omega)⟩)
set_option maxHeartbeats 8000000 in
theorem search_zero :
   (hd.heap_39 w.params).In h₀ → Below A₀ base [e1] h₀ → Fr h₀ L s.heap m → Top p loose mean mg mb h₀ → News h₀ L s.heap [(37, tabObj ps)] → Has s.heap ownT → NoDict lo ownT → HitTab ownT ps → CodeHd base 41 37 → e2.frame = some L → e2.scope.kind = .function → 66 ≤ lo → @LE.le Nat _ lo L →
   SearchFn s.heap sf an → RowAt s.heap rw nums → KTD.Nums s.heap an ans → nums.length ≤ 100 →
   (∀ h' tk v ps' ownT', Heap.ExtBut 37 s.heap h' → h'.get? 37 = some (tabObj ps') → Has h' ownT' → NoDict lo ownT' → HitTab ownT' ps' → SearchRes w lo s.heap h' nums ans 0 v → Q v { s with heap := h', toks := tk }) →
   wpAny (model Challenge.rw_mr0022_01.row.prog w) ((callerA.deeper e1).deeper e2) (call (.ref sf) [.ref rw]) Q E s := by
  k_fill
  intro X B F T N hT nT H C hf hke hlo hlL S R HA hlen hQ
  obtain ⟨ps', b, sc, c, dv, doc, pm, c', ctv, oc, t, e, n1, n2, n3, n4, h1, h2, h3, h4, h5⟩ := S
  cases e
  have hoff : ∀ b o, s.heap.get? b = some o → o.cls ≠ .none → b ≠ 37 := by
    rintro b o ho hc rfl
    rw [(N _ (List.Mem.head _)).1] at ho
    cases ho
    exact hc rfl
  have hLs : @LT.lt Nat _ L s.heap.objs.size := F.ns.lt
  refine wpAny_call ?_
  (refine' enter_def B F X N T ?kA hf hke h1 ?kd h5 ?k8 ?k9 ?kB ?_ ?c5 ?c2 ?c3 ?c4; (case kA => exact rfl); (case kd => exact rfl); (case k8 => k_room); (case k9 => exact BindsTo.of_defaults rfl h2 rfl rfl rfl); (case kB => exact locs rfl); (case c2 => exact rfl); (case c3 => exact rfl); (case c4 => exact rfl); (case c5 => decide); k_whole)
  intro g' L' h' hg hL' F' N' B' X' T' _
  have hG : ∀ b o, b ≠ 37 → s.heap.get? b = some o → g'.get? b = some o := fun b o hb e => hg b o e (by simpa using hb)
  have hrow : RowAt g' rw nums := R.keep fun b o hc e => hG b o (hoff b o e hc) e
  have hans : KTD.Nums g' an ans := by
    obtain ⟨avs, ⟨o, ho, hc, r⟩, hai⟩ := HA
    exact ⟨avs, ⟨o, hG _ _ (hoff _ _ ho (by rw [hc]; exact fun q => nomatch q)) ho, hc, r⟩, hai⟩
  have hcell := hG _ _ (ne37 n2) h3
  have hrow' := hrow
  obtain ⟨vs, hvs, hvl, -⟩ := hrow'
  try dsimp only
  w_strict k_steps
  unfold StopHere
  rename Fr _ _ _ _ => F₁
  rename News _ _ _ _ => N₁
  rename IsRange _ _ _ _ _ _ _ _ => R₁
  refine range_scan (fun i => i = 0) rfl R₁ (small_one (by omega) (by omega) (by omega) (by omega)) (rangeSize_nat _ _) F₁ N₁ rfl ?_ ?_
  · intro i t₂ h₂ tk₂ hi hP F₂ N₂
    clear F₁ N₁ R₁
    subst hP
    w_strict k_steps
    all_goals (try unfold StopHere)
    · rename Fr _ _ _ _ => F₃
      rename News _ _ _ _ => N₃
      have ext₃ : Heap.ExtBut 37 s.heap _ := fun b o hb e => F₃.keep b o (hG b o hb e)
      refine hit_call X' B' F₃ T' N₃ (hT.ext ext₃ (fun q hq => (nT q hq).1) (by omega)) nT H C rfl rfl hlo (by show @LE.le Nat _ lo L'; omega) fun h₄ tk₄ f₄ ps₄ ownT₄ own₄ e4 t4 a4 b4 k4 c4 d4 o4 => ?_
      exact hQ _ _ _ _ _ (fun b o hb e => e4 b o hb (ext₃ b o hb e)) t4 a4 b4 k4 (.inr ⟨f₄, 0, own₄, rfl, by omega, by omega, .inl rfl, fun p' h1 h2 => absurd h2 (by omega), c4, d4.back ext₃ hlo, o4⟩)
  · intro u₂ h₂ tk₂ hP F₂ N₂
    clear F₁ N₁ R₁
    w_strict k_steps
    have ext₂ : Heap.ExtBut 37 s.heap _ := fun b o hb e => F₂.keep b o (hG b o hb e)
    exact hQ _ _ _ _ ownT ext₂ (N₂ _ (List.Mem.head _)).1 (hT.ext ext₂ (fun q hq => (nT q hq).1) (by omega)) nT H (.inl ⟨rfl, fun p' h1 h2 => absurd h2 (by omega)⟩)
end
end Mine

namespace Mine

/-- the next place behind i -/
def NextIs (nums ans : List Int) (i i' : Nat) : Prop := i < i' ∧ i' < nums.length ∧ okAt nums ans (i + 1) i' ∧ ∀ p, i < p → p < i' → ¬ okAt nums ans (i + 1) p
def NoNext (nums ans : List Int) (i : Nat) : Prop := ∀ p, i < p → p < nums.length → ¬ okAt nums ans (i + 1) p
inductive Reach (nums ans : List Int) : Nat → Prop where
  | zero : Reach nums ans 0
  | step {i i' : Nat} : Reach nums ans i → NextIs nums ans i i' → Reach nums ans i'
/-- the place that search_reverse answers -/
def LastOf (nums ans : List Int) (col r : Nat) : Prop := Reach nums ans r ∧ r < col ∧ (NoNext nums ans r ∨ ∃ i', NextIs nums ans r i' ∧ col ≤ i')
def SrRes (w : World) (lo : Nat) (h h' : Heap) (nums ans : List Int) (col : Nat) (v : Value) : Prop :=
  (v = .none ∧ col = 0) ∨ ∃ f r own, v = .ref f ∧ LastOf nums ans col r ∧ Has h' own ∧ OwnOk lo h own ∧ HitBy w own f r

def Off (L : Addr) (own : List (Addr × Obj)) : Prop := ∀ q ∈ own, q.1 ≠ L

theorem off_of {lo : Nat} {h h' : Heap} {L : Addr} {m m' : Str → Option Value} {own : List (Addr × Obj)} (x : OwnOk lo h own) (H : Has h' own) (n : h.Ns L m) (n' : h'.Ns L m') : Off L own := by
  intro q hq e
  rcases (x q hq).2 with z | z
  · obtain ⟨o, _, _, eo, _⟩ := n
    rw [e, eo] at z
    cases z
  · obtain ⟨o, es, ep, eo, ed, _⟩ := n'
    have y := H q hq
    rw [e, eo] at y
    cases y
    exact z es ep ed
theorem off_nd {lo : Nat} {h : Heap} {L : Addr} {m : Str → Option Value} {own : List (Addr × Obj)} (x : NoDict lo own) (H : Has h own) (n : h.Ns L m) : Off L own := by
  intro q hq e
  obtain ⟨o, es, ep, eo, ed, _⟩ := n
  have y := H q hq
  rw [e, eo] at y
  cases y
  exact (x q hq).2 es ep ed
theorem fr_ext {h₀ h h' : Heap} {L : Addr} {m : Str → Option Value} (F : Fr h₀ L h m) (k : Heap.ExtBut 37 h h') (hL : L ≠ 37) (h0 : h₀.get? 37 = none) : Fr h₀ L h' m :=
  ⟨F.ns.at' fun o e => k _ o hL e, fun b o e => k b o (fun q => by rw [q, h0] at e; cases e) (F.keep b o e), F.above⟩
theorem news_tab {h₀ h h' : Heap} {L : Addr} {ps ps' : Array Value} (N : News h₀ L h [(37, tabObj ps)]) (e : h'.get? 37 = some (tabObj ps')) : News h₀ L h' [(37, tabObj ps')] := by
  intro q hq
  rcases List.mem_singleton.mp hq with rfl
  exact ⟨e, (N _ (List.Mem.head _)).2⟩
abbrev srMap (pr rw : Addr) (col : Int) (tc : Tok) (i : Int) (f : Addr) (vF : Value) (ti tj : Tok) : Str → Option Value := fun y =>
  if y = "j" then some (.int (i + 1) tj) else if y = "i" then some (.int i ti) else if y = "found" then some vF else if y = "m" then some (.ref f) else
    List.lookup y [(("col" : Str), Value.int col tc), ("chars", .ref rw), ("prog", .ref pr)]
theorem srMap_step (pr rw : Addr) (col : Int) (tc : Tok) (i : Int) (f : Addr) (vF : Value) (ti tj : Tok) (k : Int) (f' : Addr) (t1 t2 : Tok) :
    (fun y => if y = ("j" : Str) then some (Value.int (k + 1) t2) else if y = "i" then some (Value.int k t1) else if y = "m" then some (Value.ref f') else if y = "found" then some (Value.ref f) else srMap pr rw col tc i f vF ti tj y) = srMap pr rw col tc k f' (.ref f) t1 t2 := by
  funext y
  by_cases h1 : y = "j"
  · simp only [if_pos h1]
  · by_cases h2 : y = "i"
    · simp only [if_neg h1, if_pos h2]
    · by_cases h3 : y = "found"
      · have h4 : y ≠ "m" := by rw [h3]; decide
        simp only [if_neg h1, if_neg h2, if_neg h4, if_pos h3]
      · by_cases h4 : y = "m"
        · simp only [if_neg h1, if_neg h2, if_neg h3, if_pos h4]
        · simp only [if_neg h1, if_neg h2, if_neg h3, if_neg h4]
/-- what holds at the head of the while -/
def SrInv (w : World) (lo : Nat) (g' h0 : Heap) (L' pr rw : Addr) (tc : Tok) (nums ans : List Int) (col : Nat) (n : Nat) (m : Str → Option Value) (h : Heap) : Prop :=
  ∃ (i : Nat) (f : Addr) (vF : Value) (own ownT : List (Addr × Obj)) (ps : Array Value) (ti tj : Tok), n = nums.length - i ∧ m = srMap pr rw col tc i f vF ti tj ∧ News g' L' h [(37, tabObj ps)] ∧ Has h own ∧ Off L' own ∧ OwnOk lo h0 own ∧
    (∀ q ∈ ownT, q ∈ own) ∧ NoDict lo ownT ∧ HitTab ownT ps ∧ HitBy w own f i ∧ Reach nums ans i ∧ i < nums.length ∧
    ((vF = .none ∧ i = 0) ∨ ∃ (f' : Addr) (r : Nat), vF = .ref f' ∧ HitBy w own f' r ∧ Reach nums ans r ∧ r < col ∧ NextIs nums ans r i)

/-- a local is stored; the objects at hand stand -/
theorem storeX_H {M : Model} {A : Around} {E : Value → Shared → Prop} {s : Shared} {h₀ : Heap} {L a : Addr} {m : Str → Option Value} {cn : Str} {cs : Scope} {ccd : Value} {cl : List (Str × Addr)} {x : Str} {v : Value} {Q : Unit → Shared → Prop} {news own : List (Addr × Obj)}
    (F : Fr h₀ L s.heap m) (N : News h₀ L s.heap news) (H : Has s.heap own) (O : Off L own)
    (h : ∀ h', Fr h₀ L h' (fun y => if y = x then some v else m y) → News h₀ L h' news → Has h' own → Q () { s with heap := h', toks := s.toks + 1 })
    (hk : cs.kind = .function := by rfl) (hx : (envX cn cs L a ccd cl).kindOf x = some .local := by rfl) : wpAny M A (storeName (envX cn cs L a ccd cl) x v) Q E s :=
  wpAny_storeName_local hx F.ns (fun h' hn hs => h h' (F.set hn hs) (N.set hs) fun q hq => (hs.2 _ (O q hq)).trans (H q hq)) (by show (cs.kind == .class || (cs.kind == .module && L != mainGlobals)) = false; rw [hk]; rfl)

theorem Has.get {h : Heap} {own : List (Addr × Obj)} {a : Addr} {o : Obj} (H : Has h own) (hm : (a, o) ∈ own) : h.get? a = some o := H _ hm
theorem fnAt_of {h : Heap} {q : Addr} {oc : Value} {od : Option Addr} {fd : FuncData} {sl : Array (Option Value)} (e : h.get? q = some ⟨oc, od, .func fd, sl⟩) : FnAt q h := ⟨oc, od, fd, sl, e⟩

section
variable {w : World} {A₀ A : Around} {base h₀ : Heap} {outer : List Env} {env : Env} {L : Addr} {m mg mb : Str → Option Value} {p : Program} {loose : List Str} {mean : ExcName → Option Value} {s : Shared} {Q : Value → Shared → Prop} {E : Value → Shared → Prop} {news own : List (Addr × Obj)} {g : Addr} {place : Int}
theorem span_at (S : SpanBy w own g place) (H : Has s.heap own) (X : (hd.heap_39 w.params).In h₀) (B : Below A₀ base outer h₀) (F : Fr h₀ L s.heap m) (T : Top p loose mean mg mb h₀) (N : News h₀ L s.heap news) (hA : A.frames = some (env :: outer)) (hf : env.frame = some L) (hke : env.scope.kind = .function) (hroom : A.depth < recursionLimit) (hh : A.handled = none)
    (hQ : ∀ h' tk a t1 t2, Fr h₀ L h' m → News h₀ L h' ((a, ({ cls := .type "tuple", data := .seq #[.int place t1, .int (place + 1) t2] } : Obj)) :: news) → Has h' own → (∀ b o, s.heap.get? b = some o → h'.get? b = some o) → Q (.ref a) { s with heap := h', toks := tk }) :
    wpAny (model Challenge.rw_mr0022_01.row.prog w) A (call (.ref g) []) Q E s := by
  refine S A₀ A base h₀ outer env L m mg mb p loose mean s Q E H X B F T hA hf hke hroom hh fun h' tk a t1 t2 hk ha hn => hQ h' tk a t1 t2 (F.keeps hk) ?_ (fun q hq => hk _ _ (H q hq)) hk
  intro q hq
  rcases List.mem_cons.mp hq with rfl | hq
  · refine ⟨ha, fun e => ?_, ?_⟩
    · obtain ⟨o, _, _, eo, _⟩ := F.ns
      have e' : a = L := e
      rw [e', eo] at hn
      cases hn
    · cases z : h₀.get? a with
      | none => rfl
      | some o => rw [F.keep _ _ z] at hn; cases hn
  · exact ⟨hk _ _ (N q hq).1, (N q hq).2⟩
end

theorem unpack_H {prog : Program} {w : World} {A : Around} {E : Value → Shared → Prop} {s : Shared} {env : Env} {h₀ : Heap} {L t : Addr} {m : Str → Option Value} {news own : List (Addr × Obj)} {elts : List Expr} {k} {pos : Pos} {items : Array Value} {Q : Unit → Shared → Prop} (F : Fr h₀ L s.heap m) (N : News h₀ L s.heap news) (H : Has s.heap own) (ht : IsTup s.heap t items)
    (hh : A.handled = none) (hn : (assignEach elts env).length = items.size) (hstar : (assignEach elts env).findIdx? (·.1) = none)
    (h : ∀ h', Fr h₀ L h' m → News h₀ L h' news → Has h' own → wpAny (model prog w) A (assignInOrder ((assignEach elts env).map (·.2)) items.toList) Q E { s with heap := h' }) :
    wpAny (model prog w) A (assign (.Tuple elts k pos) env (.ref t)) Q E s :=
  assign_Tuple_tuple hh ht hn hstar fun h' he => h h' (F.extBut he (Nat.le_refl _)) (N.extBut he (Nat.le_refl _)) fun q hq => he _ _ (Nat.ne_of_lt (Heap.lt_size (H q hq))) (H q hq)
local macro_rules | `(tactic| walk_at "assign Tuple") => `(tactic| (k_here; (with_reducible show wpAny _ _ (assign (Expr.Tuple _ _ _) _ (Value.ref _)) _ _ _); k_dflt (refine' unpack_H ?k1 ?k2 ?kH ?k3 ?k4 ?k5 ?k6 ?_; (case k1 => k_asm); (case k2 => k_asm); (case kH => assumption); (case k3 => kun_tup); (case k4 => exact rfl); (case k5 => exact rfl); (case k6 => exact rfl); k_whole); intro h' F' N' H'; (try k_sweep)))
local macro_rules | `(tactic| walk_at "storeName") => `(tactic| (k_here; k_dflt (refine' storeX_H ?F ?N ?H ?O ?_ ?a ?b; (case F => k_asm); (case N => k_asm); (case H => assumption); (case O => assumption); (case a => rfl); (case b => rfl); k_whole; intro h' F' N' H'; (try k_sweep))))
local macro_rules | `(tactic| walk_at "getMethod ref") => `(tactic| (k_here; k_dflt (first
  | (refine fn_method (Fr.keep (by k_asm) _ _ (by assumption)) (Fr.keep (by k_asm) _ _ (by assumption)) lk_fn_search ?_)
  | (refine fn_method (Has.get (by assumption) (by assumption)) (Has.get (by assumption) (by assumption)) lk_fn_span ?_))))
local macro_rules | `(tactic| walk_at "callWith ref") => `(tactic| (k_here; k_dflt (first
  | (refine' callWith_F ?k1 ?_; (case k1 => exact fnAt_of (Fr.keep (by k_asm) _ _ (by assumption))); k_whole; try dsimp only [List.nil_append, List.cons_append])
  | (refine' callWith_F0 ?k1 ?_; (case k1 => exact fnAt_of (Has.get (by assumption) (by assumption))); k_whole; try dsimp only [List.nil_append, List.cons_append]))))
local macro_rules | `(tactic| walk_at "FnAt") => `(tactic| (k_dflt (exact fnAt_of (Fr.keep (by k_asm) _ _ (by assumption)))))
local macro_rules | `(tactic| walk_at "truthy ref") => `(tactic| (k_here; k_dflt (refine fn_truthy (Has.get (by assumption) (by assumption)) rfl ?_)))
local macro_rules | `(tactic| walk_at "call ref") => `(tactic| (k_here; (with_reducible show wpAny _ _ (call (Value.ref _) (_ :: _)) _ _ _); refine stop_intro ?_))
local macro_rules | `(tactic| walk_at "call ref") => `(tactic| (k_here; (with_reducible show wpAny _ _ (call (Value.ref _) []) _ _ _); (refine' span_at ?S ?H ?X ?B ?F ?T ?N ?hA ?hf ?hk ?hr ?hh ?_; (case S => assumption); (case H => assumption); (case X => k_asm); (case B => k_asm); (case F => k_asm); (case T => k_asm); (case N => k_asm); (case hA => rfl); (case hf => rfl); (case hk => rfl); (case hr => k_room); (case hh => rfl)); intro h' tk' a' t1' t2' F' N' H' kp'; (try k_sweep)))
local macro_rules | `(tactic| walk_at "exec While") => `(tactic| (k_here; refine stop_intro ?_))
local macro_rules | `(tactic| walk_at "exec While BoolOp") => `(tactic| (k_here; refine stop_intro ?_))

section
variable {w : World} {A₀ : Around} {base h₀ : Heap} {e1 : Env} {L an rw pr : Addr} {m mg mb : Str → Option Value} {p : Program} {loose : List Str} {mean : ExcName → Option Value} {s : Shared} {Q : Value → Shared → Prop} {E : Value → Shared → Prop} {nums ans : List Int} {col : Nat} {tc : Tok} {ps : Array Value} {ownT : List (Addr × Obj)} {lo : Nat}
theorem search_pos' {e2 : Env} {sf : Addr} {j : Nat} {k : Int} {tj : Tok} (hk : k = (j : Int)) (X : (hd.heap_39 w.params).In h₀) (B : Below A₀ base [e1] h₀) (F : Fr h₀ L s.heap m) (T : Top p loose mean mg mb h₀) (N : News h₀ L s.heap [(37, tabObj ps)]) (hT : Has s.heap ownT) (nT : NoDict lo ownT) (H : HitTab ownT ps) (C : CodeHd base 41 37) (hf : e2.frame = some L) (hke : e2.scope.kind = .function) (hlo : 66 ≤ lo) (hlL : @LE.le Nat _ lo L)
   (S : SearchFn s.heap sf an) (R : RowAt s.heap rw nums) (HA : KTD.Nums s.heap an ans) (hj : j ≤ nums.length) (hlen : nums.length ≤ 100)
   (hQ : ∀ h' tk v ps' ownT', Heap.ExtBut 37 s.heap h' → h'.get? 37 = some (tabObj ps') → Has h' ownT' → NoDict lo ownT' → HitTab ownT' ps' → SearchRes w lo s.heap h' nums ans j v → Q v { s with heap := h', toks := tk }) :
   wpAny (model Challenge.rw_mr0022_01.row.prog w) ((callerA.deeper e1).deeper e2) (call (.ref sf) [.ref rw, .int k tj]) Q E s := by
  subst hk
  exact search_pos X B F T N hT nT H C hf hke hlo hlL S R HA hj hlen hQ
set_option maxHeartbeats 8000000 in
theorem sr_call :
   (hd.heap_39 w.params).In h₀ → Below A₀ base [] h₀ → Fr h₀ L s.heap m → Top p loose mean mg mb h₀ → News h₀ L s.heap [(37, tabObj ps)] → Has s.heap ownT → NoDict lo ownT → HitTab ownT ps → CodeHd base 41 37 → e1.frame = some L → e1.scope.kind = .function → 66 ≤ lo → @LE.le Nat _ lo L →
   ProgOk s.heap pr an → RowAt s.heap rw nums → KTD.Nums s.heap an ans → col ≤ nums.length → nums.length ≤ 100 → 0 < nums.length →
   (∀ h' tk v ps' ownT', Heap.ExtBut 37 s.heap h' → h'.get? 37 = some (tabObj ps') → Has h' ownT' → NoDict lo ownT' → HitTab ownT' ps' → SrRes w lo s.heap h' nums ans col v → Q v { s with heap := h', toks := tk }) →
   wpAny (model Challenge.rw_mr0022_01.row.prog w) (callerA.deeper e1) (call (.ref 21) [.ref pr, .ref rw, .int col tc]) Q E s := by
  k_fill
  intro X B F T N hT nT H C hf hke hlo hlL S R HA hcol hlen hpos hQ
  have hoff : ∀ b o, s.heap.get? b = some o → o.cls ≠ .none → b ≠ 37 := by
    rintro b o ho hc rfl
    rw [(N _ (List.Mem.head _)).1] at ho
    cases ho
    exact hc rfl
  have hLs : @LT.lt Nat _ L s.heap.objs.size := F.ns.lt
  refine wpAny_call ?_
  (refine' enter_top B F X N T ?kA hf hke ?k6 ?k7 ?k8 ?k9 ?kB ?_ ?c5 ?c2 ?c3 ?c4; (case kA => exact rfl); (case k6 => k_is); (case k7 => k_is); (case k8 => k_room); (case k9 => exact BindsTo.of_eq rfl); (case kB => exact locs rfl); (case c2 => exact rfl); (case c3 => exact rfl); (case c4 => exact rfl); (case c5 => decide); k_whole)
  intro g' L' h' hg hL' F' N' B' X' T' _
  have hG : Heap.ExtBut 37 s.heap g' := fun b o hb e => hg b o e (by simpa using hb)
  have hrow : RowAt g' rw nums := R.keep fun b o hc e => hG b o (hoff b o e hc) e
  have hans : KTD.Nums g' an ans := by
    obtain ⟨avs, ⟨o, ho, hc, r⟩, hai⟩ := HA
    exact ⟨avs, ⟨o, hG _ _ (hoff _ _ ho (by rw [hc]; exact fun q => nomatch q)) ho, hc, r⟩, hai⟩
  have hprog : ProgOk g' pr an := by
    obtain ⟨d, fd, sl, hsh, t, sf, n1, n2, x1, x2, x3⟩ := S
    obtain ⟨qs, b, sc, c, dv, doc, pm, c', ctv, oc, t', e, y1, y2, y3, y4, z1, z2, z3, z4, z5⟩ := x3
    exact ⟨d, fd, sl, hsh, t, sf, n1, n2, hG _ _ (ne37 n1) x1, hG _ _ (ne37 n2) x2, qs, b, sc, c, dv, doc, pm, c', ctv, oc, t', e, y1, y2, y3, y4, hG _ _ (ne37 y1) z1, hG _ _ (ne37 y3) z2, hG _ _ (ne37 y2) z3, z4, codeRec_ext z5 hG (ne37 y4)⟩
  obtain ⟨pd, pfd, psl, phsh, pt, sf, n1, n2, hp1, hp2, hS⟩ := hprog
  have hS' := hS
  obtain ⟨_, _, _, _, _, _, _, _, _, _, _, _, _, _, _, _, hsf, _⟩ := hS'
  have F1 : Fr g' L' h' (fun y => List.lookup y [(("col" : Str), Value.int col tc), ("chars", .ref rw), ("prog", .ref pr)]) := F'
  clear F'
  have h37 := (N' _ (List.Mem.head _)).2
  have extF : ∀ {h : Heap} {m : Str → Option Value}, Fr g' L' h m → Heap.ExtBut 37 s.heap h := fun F b o hb e => F.keep b o (hG b o hb e)
  have hT1 : Has h' ownT := hT.ext (extF F1) (fun q hq => (nT q hq).1) (by omega)
  have hO1 : Off L' ownT := off_nd nT hT1 F1.ns
  try dsimp only
  w_strict k_steps
  unfold StopHere
  refine search_zero X' B' F1 T' N' hT1 nT H C rfl rfl hlo (by show @LE.le Nat _ lo L'; omega) (hS.keep fun b o _ _ e => F1.keep b o e) (hrow.keep fun b o _ e => F1.keep b o e) (hans.keep F1.keep) hlen fun h₂ tk₂ v₂ ps₂ ownT₂ e2 t2 a2 b2 k2 r2 => ?_
  rcases r2 with ⟨rfl, hno⟩ | ⟨f, p0, own, rfl, -, -, -, hmin, c2, d2, o2⟩
  · exact absurd (Or.inl rfl) (hno 0 (by omega) hpos)
  obtain rfl : p0 = 0 := by
    rcases Nat.eq_zero_or_pos p0 with e | e
    · exact e
    · exact absurd (Or.inl rfl) (hmin 0 (by omega) e)
  have F2 := fr_ext F1 e2 (Ne.symm h37.1) h37.2
  have N2 := news_tab N' t2
  have H2 : Has h₂ (own ++ ownT₂) := c2.app a2
  have O2 : Off L' (own ++ ownT₂) := fun q hq => (List.mem_append.mp hq).elim (off_of d2 c2 F1.ns F2.ns q) (off_nd b2 a2 F2.ns q)
  have K2 : OwnOk lo s.heap (own ++ ownT₂) := fun q hq => (List.mem_append.mp hq).elim (d2.back (extF F1) hlo q) (fun hq => ⟨(b2 q hq).1, .inr (b2 q hq).2⟩)
  have P2 : HitBy w (own ++ ownT₂) f 0 := o2.sub fun q hq => List.mem_append_left _ hq
  have P2' := P2
  obtain ⟨_, _, _, _, _, _, mf, md, ⟨_, _, _, _, mg'⟩, msp⟩ := P2'
  clear N' hT1 hO1 c2
  w_strict k_steps
  unfold StopHere
  rename Fr _ _ _ _ => F3
  rename News _ _ _ _ => N3
  rename Has _ _ => H3
  refine while_heap (SrInv w lo g' s.heap L' pr rw tc nums ans col) (n₀ := nums.length - 0) F3 ⟨0, f, .none, own ++ ownT₂, ownT₂, ps₂, _, _, rfl, rfl, fun q hq => N3 q (List.mem_cons_of_mem _ hq), H3, O2, K2, fun q hq => List.mem_append_right _ hq, b2, k2, P2, .zero, hpos, .inl ⟨rfl, rfl⟩⟩ ?_
  clear F3 N3 O2 K2 P2 mf md mg' msp b2 k2 a2 d2 o2
  rintro n m₁ h tk F4 ⟨i, f, vF, own, ownT, ps, ti, tj, rfl, rfl, N4, H4, O4, K4, sub4, nd4, ht4, P4, reach4, hi4, fo4⟩
  have P4' := P4
  obtain ⟨_, _, _, _, _, _, mf, md, ⟨_, _, _, _, mg'⟩, msp⟩ := P4'
  w_strict k_steps
  all_goals (try unfold StopHere)
  · exfalso
    omega
  · rename Fr _ _ _ _ => F5
    rename News _ _ _ _ => N5
    rename Has _ _ => H5
    have hic : i < col := by omega
    refine search_pos' (j := i + 1) (by omega) X' B' F5 T' N5 (fun q hq => H5 q (sub4 q hq)) nd4 ht4 C rfl rfl hlo (by show @LE.le Nat _ lo L'; omega) (hS.keep fun b o _ _ e => F5.keep b o e) (hrow.keep fun b o _ e => F5.keep b o e) (hans.keep F5.keep) (by omega) hlen fun h6 tk6 v6 ps6 ownT6 e6 t6 a6 b6 k6 r6 => ?_
    have F6 := fr_ext F5 e6 (Ne.symm h37.1) h37.2
    have N6 := news_tab N5 t6
    have H6 : Has h6 own := H5.ext e6 (fun q hq => (K4 q hq).1) (by omega)
    have OT6 := off_nd b6 a6 F6.ns
    rcases r6 with ⟨rfl, hno⟩ | ⟨f6, p6, own6, rfl, lo6, hi6, ok6, hmin, c6, d6, o6⟩
    · have H7 : Has h6 (own ++ ownT6) := H6.app a6
      have O7 : Off L' (own ++ ownT6) := fun q hq => (List.mem_append.mp hq).elim (O4 q) (OT6 q)
      clear H4 N5 H5 H6 a6 O4 OT6
      w_strict k_steps
      rename Fr _ _ _ _ => F8
      rename News _ _ _ _ => N8
      rename Has _ _ => H8
      exact hQ _ _ _ _ ownT6 (extF F8) (N8 _ (List.Mem.head _)).1 (fun q hq => H8 q (List.mem_append_right _ hq)) b6 k6 (.inr ⟨f, i, own, rfl, ⟨reach4, hic, .inl fun p' h1 h2 => hno p' (by omega) h2⟩, fun q hq => H8 q (List.mem_append_left _ hq), K4, P4⟩)
    · have H7 : Has h6 (own6 ++ (own ++ ownT6)) := c6.app (H6.app a6)
      have O7 : Off L' (own6 ++ (own ++ ownT6)) := fun q hq => (List.mem_append.mp hq).elim (off_of d6 c6 F5.ns F6.ns q) fun hq => (List.mem_append.mp hq).elim (O4 q) (OT6 q)
      have K7 : OwnOk lo s.heap (own6 ++ (own ++ ownT6)) := fun q hq => (List.mem_append.mp hq).elim (d6.back (extF F5) hlo q) fun hq => (List.mem_append.mp hq).elim (K4 q) (fun hq => ⟨(b6 q hq).1, .inr (b6 q hq).2⟩)
      have P7 : HitBy w (own6 ++ (own ++ ownT6)) f6 p6 := o6.sub fun q hq => List.mem_append_left _ hq
      have P8 : HitBy w (own6 ++ (own ++ ownT6)) f i := P4.sub fun q hq => List.mem_append_right _ (List.mem_append_left _ hq)
      have P7' := P7
      clear mf md mg' msp H4 H5 H6 O4 OT6 a6 c6 N5
      obtain ⟨_, _, _, _, _, _, mf, md, ⟨_, _, _, _, mg'⟩, msp⟩ := P7'
      w_strict k_steps
      rename Fr _ _ _ _ => F8
      rename News _ _ _ _ => N8
      rename Has _ _ => H8
      have nx : NextIs nums ans i p6 := ⟨by omega, hi6, ok6, fun p' h1 h2 => hmin p' (by omega) h2⟩
      exact ⟨_, _, _, nums.length - p6, rfl, F8, by omega, p6, f6, .ref f, _, ownT6, ps6, _, _, rfl, srMap_step .., fun q hq => N8 q (List.mem_cons_of_mem _ hq), H8, O7, K7, fun q hq => List.mem_append_right _ (List.mem_append_right _ hq), b6, k6, P7, reach4.step nx, hi6, .inr ⟨f, i, rfl, P8, reach4, hic, nx⟩⟩
  · refine hQ _ _ _ _ ownT (extF F4) (N4 _ (List.Mem.head _)).1 (fun q hq => H4 q (sub4 q hq)) nd4 ht4 ?_
    rcases fo4 with ⟨rfl, rfl⟩ | ⟨f', r, rfl, ph, pr', hr, nx⟩
    · exact .inl ⟨rfl, by omega⟩
    · exact .inr ⟨f', r, own, rfl, ⟨pr', hr, .inr ⟨i, nx, by omega⟩⟩, H4, K4, ph⟩
end
end Mine

namespace Mine
/-- an item of a list of ints -/
theorem int_item {prog : Program} {w : World} {A : Around} {E : Value → Shared → Prop} {s : Shared} {h₀ : Heap} {L l : Addr} {m : Str → Option Value} {vs : List Value} {as : List Int} {value slice : PySem.Expr} {k : Int} {u : Tok} {Q : Value → Shared → Prop}
    (F : Fr h₀ L s.heap m) (hl : h₀.IsList l vs.toArray) (hi : IntsAre vs as) (hlen : as.length ≤ 100) (h0 : 0 ≤ k) (hk : k < (as.length : Int))
    (h : ∀ t, Q (.int (as.getD k.toNat 0) t) s)
    (hs : subscripted slice false (.ref l) (.int k u) = operate [.ref l, .int k u] (getItem (.ref l) (.int k u)) := by with_unfolding_all rfl) :
    wpAny (model prog w) A (subscriptTail value slice (.ref l) (.int k u)) Q E s := by
  have hlt : k.toNat < as.length := by omega
  obtain ⟨t, e⟩ := hi.get k.toNat as[k.toNat] (by simp [hlt])
  have hg : as.getD k.toNat 0 = as[k.toNat] := by rw [List.getD_eq_getElem?_getD, List.getElem?_eq_getElem hlt]; rfl
  have hl' : s.heap.IsList l vs.toArray := hl.at fun o e => F.keep _ o e
  have hq := h t
  rw [hg] at hq
  exact tail_any hl'.typeIs slot_list_getitem.lookup (wpAny_getItem_list hl' h0 (by omega) (by simpa using e) hq) hs
local macro_rules | `(tactic| walk_at "subscriptTail") => `(tactic| (k_here; (with_reducible show wpAny _ _ (subscriptTail _ _ (Value.ref _) (Value.int _ _)) _ _ _); (with_unfolding_all refine' int_item ?F ?l ?i ?hl ?h0 ?hk ?_ ?hs; (case F => k_asm); (case l => assumption); (case i => assumption); (case hl => assumption); (case h0 => omega); (case hk => omega); (case hs => with_unfolding_all rfl)); intro t1'))
local macro_rules | `(tactic| walk_at "call builtin:len") => `(tactic| (k_here; (with_reducible show wpAny _ _ (call (Value.builtin "len") [Value.ref _]) _ _ _); k_dflt (refine len_row (by k_asm) (by assumption) (by assumption) (by assumption) ?_)))
local macro_rules | `(tactic| walk_at "pyIter ref") => `(tactic| (refine stop_intro ?_))
local macro_rules | `(tactic| walk_at "InvPostN") => `(tactic| (refine stop_intro ?_))
local macro_rules | `(tactic| walk_at "InvEndN") => `(tactic| (refine stop_intro ?_))
local macro_rules | `(tactic| walk_at "eval ListComp") => `(tactic| (refine stop_intro ?_))
local macro_rules | `(tactic| walk_at "call type:list") => `(tactic| (refine stop_intro ?_))
local macro_rules | `(tactic| walk_at "CompSrcT") => `(tactic| (refine stop_intro ?_))
local macro_rules | `(tactic| walk_at "CompEnd") => `(tactic| (refine stop_intro ?_))
def GoalIs (as ans : List Int) (G : Int) : Prop := ¬ (1 ∈ ans ∧ -1 ∈ ans) ∧ G ∈ as ∧ (1 ∈ ans → ∀ a ∈ as, a ≤ G) ∧ (-1 ∈ ans → ∀ a ∈ as, G ≤ a) ∧ (1 ∉ ans → -1 ∉ ans → G = as.getD 0 0)
theorem first_mem {as : List Int} (h : 0 < as.length) : as.getD 0 0 ∈ as := by
  cases as with
  | nil => exact absurd h (by decide)
  | cons a r => exact List.Mem.head _
/-- what _law_goals gives -/
def GoalsAre (as ans gl : List Int) : Prop :=
  (1 ∈ ans ∧ -1 ∈ ans ∧ ∃ b : Nat, b < as.length ∧ (∀ p, b < p → p < as.length → as.getD p 0 = as.getD (p - 1) 0) ∧ (b = 0 ∨ as.getD b 0 ≠ as.getD (b - 1) 0) ∧ gl = rangeKs b (as.length - b)) ∨
  ∃ G : Int, GoalIs as ans G ∧ gl = ((List.range as.length).filter fun k => as.getD k 0 == G).map (fun (k : Nat) => (k : Int))
section
variable {w : World} {A₀ : Around} {base h₀ : Heap} {e1 e2 : Env} {L an ah : Addr} {m mg mb : Str → Option Value} {p : Program} {loose : List Str} {mean : ExcName → Option Value} {s : Shared} {Q : Value → Shared → Prop} {E : Value → Shared → Prop} {as ans : List Int}
set_option maxHeartbeats 1000000 in
theorem goals_call :
   (hd.heap_39 w.params).In h₀ → Below A₀ base [e1] h₀ → Fr h₀ L s.heap m → Top p loose mean mg mb h₀ → e2.frame = some L → e2.scope.kind = .function →
   KTD.Nums s.heap ah as → KTD.Nums s.heap an ans → as.length ≤ 100 → 0 < as.length →
   (∀ h' tk D ys c gl, (∀ b o, s.heap.get? b = some o → h'.get? b = some o) → s.heap.get? D = none → h'.get? D = some (W.listOf (List.toArray ys) c) → IntsAre ys gl → GoalsAre as ans gl → Q (.ref D) { s with heap := h', toks := tk }) →
   wpAny (model Challenge.rw_mr0022_01.row.prog w) ((callerA.deeper e1).deeper e2) (call (.ref 54) [.ref ah, .ref an]) Q E s := by
  k_fill
  intro X B F T hf hke HH HA hlen hpos hQ
  refine wpAny_call ?_
  (refine' enter_cells (news := []) B F X ?N T ?kA hf hke ?k6 ?k7 ?k8 ?k9 ?kB ?kD ?_ ?c2 ?c3 ?c4; (case N => exact fun q hq => nomatch hq); (case kA => exact rfl);  (case k6 => k_is); (case k7 => k_is); (case k8 => k_room); (case k9 => exact BindsTo.of_eq rfl); (case kB => exact rfl); (case kD => decide +kernel); (case c2 => exact rfl); (case c3 => exact rfl); (case c4 => exact rfl); k_whole; intro g' L' h' tk' cells' hg hL' F' N' Y' B' X' T' l1; k_cells Y'; (try simp only [List.cons_append, List.nil_append] at N'))
  have hG : ∀ b o, s.heap.get? b = some o → g'.get? b = some o := fun b o e => hg b o e (fun q => nomatch q)
  have hah : KTD.Nums g' ah as := HH.keep hG
  have han : KTD.Nums g' an ans := HA.keep hG
  have hah' := hah
  obtain ⟨vs, hvl, hvi⟩ := hah'
  have F1 : Fr g' L' h' (fun y => if y = "answers" then some (.ref an) else none) := F'
  clear F'
  rename Obj.data _ = Data.cell _ => hd2
  revert hd2
  rename Obj.data _ = Data.cell _ => hd1
  intro hd2
  replace hd2 : _ = Data.cell (some (.ref ah)) := hd2
  replace hd1 : _ = Data.cell none := hd1
  have hvn : vs.length = as.length := hvi.length
  try dsimp only
  w_strict k_steps
  all_goals (try unfold StopHere)
  · rename Fr _ _ _ _ => F3
    rename News _ _ _ _ => N3
    rename IsRange _ _ _ _ _ _ _ _ => R3
    rename KTD.inNums 1 ans = true => i1
    rename KTD.inNums (-1) ans = true => i2
    rw [inNums_iff] at i1 i2
    refine kst_range (σ := Int × Tok) (fun _ => _) (fun c => [("begin", .int c.1 c.2)]) (fun _ => True) [] (fun pre c => ∃ b : Nat, c.1 = (b : Int) ∧ b < pre.length + 1 ∧ (∀ p, b < p → p < pre.length + 1 → as.getD p 0 = as.getD (p - 1) 0) ∧ (b = 0 ∨ as.getD b 0 ≠ as.getD (b - 1) 0)) (0, tk) rfl R3 (small_one (by omega) (by omega) (by omega) (by omega)) (rangeSize_nat _ _) F3 N3 trivial ?_ ⟨0, rfl, by omega, fun p h1 h2 => absurd h2 (by simp; omega), .inl rfl⟩ ?_ ?_
    · exact List.forall_mem_cons.mpr ⟨rfl, List.forall_mem_nil _⟩
    · rintro ⟨c, tc⟩ pre k t' u' h₃ tk₃ own hk hpre hown - ⟨b, hb1, hb2, hb3, hb4⟩ F4 N4
      clear F3 N3 R3
      dsimp only at hb1
      subst hb1
      have hkn : k.toNat = pre.length + 1 := by omega
      have hkm : (k - 1).toNat = pre.length := by omega
      w_strict k_steps
      all_goals (try unfold StopHere)
      · rename (List.getD _ _ _ ≠ List.getD _ _ _) => hne
        rename Fr _ _ _ _ => F5
        rename News _ _ _ _ => N5
        rw [hkn, hkm] at hne
        refine kst_end (k, t') F5 N5 (fun q hq => List.mem_append_left _ hq) (fun q hq => List.mem_append_right _ hq) rfl trivial (List.forall_mem_cons.mpr ⟨rfl, List.forall_mem_nil _⟩) ?_ ?_
        · intro z h1 h2 h3
          have hb : z ≠ "begin" := h2 _ (List.Mem.head _)
          simp only [kstB, if_neg hb, if_neg h1, List.contains_nil, Bool.false_eq_true, if_false]
        · refine ⟨pre.length + 1, by dsimp only; omega, by simp, fun p h1 h2 => absurd h2 (by simp; omega), .inr ?_⟩
          exact hne
      · rename (List.getD _ _ _ = List.getD _ _ _) => heq
        rw [hkn, hkm] at heq
        refine kst_end ((b : Int), tc) F4 N4 (fun q hq => List.mem_append_left _ hq) (fun q hq => List.mem_append_right _ hq) rfl trivial (List.forall_mem_cons.mpr ⟨rfl, List.forall_mem_nil _⟩) ?_ ?_
        · intro z h1 h2 h3
          have hb : z ≠ "begin" := h2 _ (List.Mem.head _)
          simp only [kstB, if_neg hb, if_neg h1, List.contains_nil, Bool.false_eq_true, if_false]
        · refine ⟨b, rfl, by simp; omega, fun p h1 h2 => ?_, hb4⟩
          rw [List.length_append, List.length_singleton] at h2
          by_cases hp : p = pre.length + 1
          · subst hp
            exact heq
          · exact hb3 p h1 (by omega)
    · rintro ⟨c, tc⟩ u' h₃ tk₃ - ⟨b, hb1, hb2, hb3, hb4⟩ F4 N4
      clear F3 N3 R3
      dsimp only at hb1
      subst hb1
      rw [rangeKs_length] at hb2 hb3
      w_strict k_steps
      all_goals (try unfold StopHere)
      rename Fr _ _ _ _ => F5
      rename News _ _ _ _ => N5
      rename IsRange _ _ _ _ _ _ _ _ => R5
      refine kll_range rfl F5 N5 R5 (small_one (by omega) (by omega) (by omega) (by omega)) (rangeSize_nat _ _) (by omega) fun D us c h₆ tk₆ F6 N6 _ hI => ?_
      have e1 : (((as.length : Nat) : Int) - (b : Int)).toNat = as.length - b := by omega
      rw [e1] at hI
      exact hQ _ _ D us c _ (fun b o e => F6.keep b o (hG b o e)) (fresh_of hg (N6 _ (List.Mem.head _)).2.2 (fun q => nomatch q)) (N6 _ (List.Mem.head _)).1 hI (.inl ⟨i1, i2, b, by omega, fun p h1 h2 => hb3 p h1 (by omega), hb4, rfl⟩)
  all_goals rename Obj => oG
  · obtain ⟨G, hGP, tG, hdG⟩ : ∃ G, GoalIs as ans G ∧ ∃ t, oG.data = .cell (some (.int G t)) := by
      rename KTD.inNums 1 ans = true => h1
      rename KTD.inNums (-1) ans = false => h2
      rw [inNums_iff] at h1
      rw [inNums_no] at h2
      exact ⟨_, ⟨fun h => h2 h.2, by assumption, fun _ => by assumption, fun h => absurd h h2, fun h => absurd h1 h⟩, _, by assumption⟩
    rename Fr _ _ _ _ => F3
    rename News _ _ _ _ => N3
    refine LCt.ListComp_T (F₀ := F3) (by with_unfolding_all rfl) (by decide) (by rfl) (by decide) (by rfl) ?_
    w_strict k_steps
    unfold StopHere
    rename Fr _ _ _ _ => F4
    rename News _ _ _ _ => N4
    rename IsRange _ _ _ _ _ _ _ _ => R4
    refine LCt.CompSrcT.range (by rfl) F4 N4 R4 (small_one (by omega) (by omega) (by omega) (by omega)) (rangeSize_nat _ _) (by rw [sizeLine_eq]; omega) ?_
    intro gx
    have e0 : (((as.length : Nat) : Int) - 0).toNat = as.length := by omega
    rw [e0]
    clear F4 N4 R4
    refine filter_rest (fun k => as.getD k 0 == G) ?_ ?_
    · intro i t' I oI C oC D m₂ ys h₃ tk₃ E₃ hi hC hx F5 N5 off ne
      have ei : ((0 : Int) + (i : Int)).toNat = i := by omega
      w_strict k_steps
      all_goals (try unfold StopHere)
      · rename (List.getD _ _ _ = G) => hc
        rw [ei] at hc
        exact LCg.CompEnd.intro F5 N5 _ (fun _ h => h) off trivial ⟨rfl, by simpa using hc, fun _ => ⟨t', by rw [Int.zero_add]⟩⟩
      · rename (List.getD _ _ _ ≠ G) => hc
        rw [ei] at hc
        exact LCg.CompEnd.intro F5 N5 _ (fun _ h => h) off trivial ⟨rfl, by simpa using hc, fun h => nomatch h⟩
    · intro ys hys D h₃ tk₃ F5 N5 off
      w_strict k_steps
      exact hQ _ _ D ys _ _ (fun b o e => F5.keep b o (hG b o e)) (fresh_of hg (N5 _ (List.Mem.head _)).2.2 (fun q => nomatch q)) (N5 _ (List.Mem.head _)).1 hys (.inr ⟨G, hGP, rfl⟩)
  · obtain ⟨G, hGP, tG, hdG⟩ : ∃ G, GoalIs as ans G ∧ ∃ t, oG.data = .cell (some (.int G t)) := by
      rename KTD.inNums 1 ans = false => h1
      rename KTD.inNums (-1) ans = true => h2
      rw [inNums_no] at h1
      rw [inNums_iff] at h2
      exact ⟨_, ⟨fun h => h1 h.1, by assumption, fun h => absurd h h1, fun _ => by assumption, fun _ h => absurd h2 h⟩, _, by assumption⟩
    rename Fr _ _ _ _ => F3
    rename News _ _ _ _ => N3
    refine LCt.ListComp_T (F₀ := F3) (by with_unfolding_all rfl) (by decide) (by rfl) (by decide) (by rfl) ?_
    w_strict k_steps
    unfold StopHere
    rename Fr _ _ _ _ => F4
    rename News _ _ _ _ => N4
    rename IsRange _ _ _ _ _ _ _ _ => R4
    refine LCt.CompSrcT.range (by rfl) F4 N4 R4 (small_one (by omega) (by omega) (by omega) (by omega)) (rangeSize_nat _ _) (by rw [sizeLine_eq]; omega) ?_
    intro gx
    have e0 : (((as.length : Nat) : Int) - 0).toNat = as.length := by omega
    rw [e0]
    clear F4 N4 R4
    refine filter_rest (fun k => as.getD k 0 == G) ?_ ?_
    · intro i t' I oI C oC D m₂ ys h₃ tk₃ E₃ hi hC hx F5 N5 off ne
      have ei : ((0 : Int) + (i : Int)).toNat = i := by omega
      w_strict k_steps
      all_goals (try unfold StopHere)
      · rename (List.getD _ _ _ = G) => hc
        rw [ei] at hc
        exact LCg.CompEnd.intro F5 N5 _ (fun _ h => h) off trivial ⟨rfl, by simpa using hc, fun _ => ⟨t', by rw [Int.zero_add]⟩⟩
      · rename (List.getD _ _ _ ≠ G) => hc
        rw [ei] at hc
        exact LCg.CompEnd.intro F5 N5 _ (fun _ h => h) off trivial ⟨rfl, by simpa using hc, fun h => nomatch h⟩
    · intro ys hys D h₃ tk₃ F5 N5 off
      w_strict k_steps
      exact hQ _ _ D ys _ _ (fun b o e => F5.keep b o (hG b o e)) (fresh_of hg (N5 _ (List.Mem.head _)).2.2 (fun q => nomatch q)) (N5 _ (List.Mem.head _)).1 hys (.inr ⟨G, hGP, rfl⟩)
  · obtain ⟨G, hGP, tG, hdG⟩ : ∃ G, GoalIs as ans G ∧ ∃ t, oG.data = .cell (some (.int G t)) := by
      rename KTD.inNums 1 ans = false => h1
      rename KTD.inNums (-1) ans = false => h2
      rw [inNums_no] at h1 h2
      exact ⟨as.getD 0 0, ⟨fun h => h1 h.1, first_mem hpos, fun h => absurd h h1, fun h => absurd h h2, fun _ _ => rfl⟩, _, by assumption⟩
    rename Fr _ _ _ _ => F3
    rename News _ _ _ _ => N3
    refine LCt.ListComp_T (F₀ := F3) (by with_unfolding_all rfl) (by decide) (by rfl) (by decide) (by rfl) ?_
    w_strict k_steps
    unfold StopHere
    rename Fr _ _ _ _ => F4
    rename News _ _ _ _ => N4
    rename IsRange _ _ _ _ _ _ _ _ => R4
    refine LCt.CompSrcT.range (by rfl) F4 N4 R4 (small_one (by omega) (by omega) (by omega) (by omega)) (rangeSize_nat _ _) (by rw [sizeLine_eq]; omega) ?_
    intro gx
    have e0 : (((as.length : Nat) : Int) - 0).toNat = as.length := by omega
    rw [e0]
    clear F4 N4 R4
    refine filter_rest (fun k => as.getD k 0 == G) ?_ ?_
    · intro i t' I oI C oC D m₂ ys h₃ tk₃ E₃ hi hC hx F5 N5 off ne
      have ei : ((0 : Int) + (i : Int)).toNat = i := by omega
      w_strict k_steps
      all_goals (try unfold StopHere)
      · rename (List.getD _ _ _ = G) => hc
        rw [ei] at hc
        exact LCg.CompEnd.intro F5 N5 _ (fun _ h => h) off trivial ⟨rfl, by simpa using hc, fun _ => ⟨t', by rw [Int.zero_add]⟩⟩
      · rename (List.getD _ _ _ ≠ G) => hc
        rw [ei] at hc
        exact LCg.CompEnd.intro F5 N5 _ (fun _ h => h) off trivial ⟨rfl, by simpa using hc, fun h => nomatch h⟩
    · intro ys hys D h₃ tk₃ F5 N5 off
      w_strict k_steps
      exact hQ _ _ D ys _ _ (fun b o e => F5.keep b o (hG b o e)) (fresh_of hg (N5 _ (List.Mem.head _)).2.2 (fun q => nomatch q)) (N5 _ (List.Mem.head _)).1 hys (.inr ⟨G, hGP, rfl⟩)
end
end Mine

namespace Mine
theorem goals_ne {as ans gl : List Int} (h : GoalsAre as ans gl) : gl ≠ [] := by
  rcases h with ⟨_, _, b, hb, _, _, rfl⟩ | ⟨G, ⟨_, hG, _⟩, rfl⟩
  · intro e
    have := congrArg List.length e
    rw [rangeKs_length] at this
    simp at this
    omega
  · obtain ⟨k, hk, e⟩ := List.mem_iff_getElem.mp hG
    intro z
    have hz : ((List.range as.length).filter fun k => as.getD k 0 == G) = [] := List.map_eq_nil_iff.mp z
    have hm : k ∈ ((List.range as.length).filter fun k => as.getD k 0 == G) := by
      rw [List.mem_filter]
      refine ⟨List.mem_range.mpr hk, ?_⟩
      rw [List.getD_eq_getElem?_getD, List.getElem?_eq_getElem hk]
      simp [e]
    rw [hz] at hm
    cases hm
theorem goals_len {as ans gl : List Int} (h : GoalsAre as ans gl) : gl.length ≤ as.length := by
  rcases h with ⟨_, _, b, hb, _, _, rfl⟩ | ⟨G, _, rfl⟩
  · rw [rangeKs_length]; omega
  · rw [List.length_map]
    exact Nat.le_trans (List.length_filter_le _ _) (by simp)
/-- what _law_due gives -/
def DueIs (as ans : List Int) (p : Int) : Prop := ∃ gl, GoalsAre as ans gl ∧ (0 ∈ ans → gl.getLast? = some p) ∧ (0 ∉ ans → gl.head? = some p)
def DueRes (h h' : Heap) (as ans : List Int) (v : Value) : Prop :=
  (as = [] ∧ v = .none) ∨ ∃ p a t1 t2, as ≠ [] ∧ DueIs as ans p ∧ v = .ref a ∧ h.get? a = none ∧ h'.get? a = some ({ cls := .type "tuple", data := .seq #[.int p t1, .int (p + 1) t2] } : Obj)

local macro_rules | `(tactic| walk_at "call ref") => `(tactic| (k_here; refine stop_intro ?_))
local macro_rules | `(tactic| walk_at "subscriptTail") => `(tactic| (k_here; refine stop_intro ?_))
section
variable {w : World} {A₀ : Around} {base h₀ : Heap} {e1 : Env} {L an ah : Addr} {m mg mb : Str → Option Value} {p : Program} {loose : List Str} {mean : ExcName → Option Value} {s : Shared} {Q : Value → Shared → Prop} {E : Value → Shared → Prop} {as ans : List Int}
set_option maxHeartbeats 1000000 in
theorem due_call :
   (hd.heap_39 w.params).In h₀ → Below A₀ base [] h₀ → Fr h₀ L s.heap m → Top p loose mean mg mb h₀ → e1.frame = some L → e1.scope.kind = .function →
   KTD.Nums s.heap ah as → KTD.Nums s.heap an ans → as.length ≤ 100 →
   (∀ h' tk v, (∀ b o, s.heap.get? b = some o → h'.get? b = some o) → DueRes s.heap h' as ans v → Q v { s with heap := h', toks := tk }) →
   wpAny (model Challenge.rw_mr0022_01.row.prog w) (callerA.deeper e1) (call (.ref 61) [.ref ah, .ref an]) Q E s := by
  k_fill
  intro X B F T hf hke HH HA hlen hQ
  refine wpAny_call ?_
  (refine' enter_top (news := []) B F X ?N T ?kA hf hke ?k6 ?k7 ?k8 ?k9 ?kB ?_ ?c5 ?c2 ?c3 ?c4; (case N => exact fun q hq => nomatch hq); (case kA => exact rfl); (case k6 => k_is); (case k7 => k_is); (case k8 => k_room); (case k9 => exact BindsTo.of_eq rfl); (case kB => exact locs rfl); (case c2 => exact rfl); (case c3 => exact rfl); (case c4 => exact rfl); (case c5 => decide); k_whole)
  intro g' L' h' hg hL' F' N' B' X' T' _
  have hG : ∀ b o, s.heap.get? b = some o → g'.get? b = some o := fun b o e => hg b o e (fun q => nomatch q)
  have hah : KTD.Nums g' ah as := HH.keep hG
  have han : KTD.Nums g' an ans := HA.keep hG
  have hah' := hah
  obtain ⟨vs, hvl, hvi⟩ := hah'
  have F1 : Fr g' L' h' (fun y => List.lookup y [(("answers" : Str), Value.ref an), ("ahead", .ref ah)]) := F'
  clear F'
  try dsimp only
  w_strict k_steps
  all_goals (try unfold StopHere)
  · rename Fr _ _ _ _ => F2
    rename decide _ = true => hc
    exact hQ _ _ _ (fun b o e => F2.keep b o (hG b o e)) (.inl ⟨of_decide_eq_true hc, rfl⟩)
  · rename Fr _ _ _ _ => F2
    rename News _ _ _ _ => N2
    rename decide _ = false => hc
    have hne : as ≠ [] := of_decide_eq_false hc
    have hpos : 0 < as.length := List.length_pos_iff.mpr hne
    refine goals_call X' B' F2 T' rfl rfl (hah.keep F2.keep) (han.keep F2.keep) hlen hpos fun h₃ tk₃ D ys c gl hk hD hDo hys hgl => ?_
    have F3 := F2.keeps hk
    have N3 : News g' L' h₃ [(D, W.listOf (List.toArray ys) c)] := by
      intro q hq
      rcases List.mem_singleton.mp hq with rfl
      refine ⟨hDo, fun e => ?_, ?_⟩
      · obtain ⟨o, _, _, eo, _⟩ := F2.ns
        have e' : D = L' := e
        rw [e'] at hD
        rw [eo] at hD
        cases hD
      · cases z : g'.get? D with
        | none => rfl
        | some o => rw [F2.keep _ _ z] at hD; cases hD
    have gn := goals_ne hgl
    have gl2 := goals_len hgl
    have hyl : ys.length = gl.length := hys.length
    have gpos : 0 < gl.length := List.length_pos_iff.mpr gn
    clear F2 N2 hk
    w_strict k_steps
    all_goals (try unfold StopHere)
    · rename Fr _ _ _ _ => F4
      rename News _ _ _ _ => N4
      rename KTD.inNums 0 ans = true => h0
      rw [inNums_iff] at h0
      refine hQ _ _ _ (fun b o e => F4.keep b o (hG b o e)) (.inr ⟨_, _, _, _, hne, ⟨gl, hgl, fun _ => ?_, fun h => absurd h0 h⟩, rfl, fresh_of hg (N4 _ (List.Mem.head _)).2.2 (fun q => nomatch q), (N4 _ (List.Mem.head _)).1⟩)
      have e1 : (-1 + (gl.length : Int)).toNat = gl.length - 1 := by omega
      rw [e1, List.getLast?_eq_getElem?, List.getD_eq_getElem?_getD, List.getElem?_eq_getElem (by omega)]
      rfl
    · rename Fr _ _ _ _ => F4
      rename News _ _ _ _ => N4
      rename KTD.inNums 0 ans = false => h0
      rw [inNums_no] at h0
      refine hQ _ _ _ (fun b o e => F4.keep b o (hG b o e)) (.inr ⟨_, _, _, _, hne, ⟨gl, hgl, fun h => absurd h h0, fun _ => ?_⟩, rfl, fresh_of hg (N4 _ (List.Mem.head _)).2.2 (fun q => nomatch q), (N4 _ (List.Mem.head _)).1⟩)
      cases gl with
      | nil => exact absurd rfl gn
      | cons a r => rfl
end
end Mine

namespace Mine
theorem slot_map_iter : Slot "map" "__iter__" "map.__iter__" :=
  .of (owner := "map") (n := "__iter__") (by rw [typeLookup_type, builtinLookup_eq_fast]; kernel_rfl) (by decide +kernel) (by decide +kernel) (by decide +kernel) (by decide +kernel) (by rw [isSubtype_type]; kernel_rfl)
theorem slot_map_next : Slot "map" "__next__" "map.__next__" :=
  .of (owner := "map") (n := "__next__") (by rw [typeLookup_type, builtinLookup_eq_fast]; kernel_rfl) (by decide +kernel) (by decide +kernel) (by decide +kernel) (by decide +kernel) (by rw [isSubtype_type]; kernel_rfl)
theorem slot_map_init : Slot "map" "__init__" "object.__init__" :=
  .of (owner := "object") (n := "__init__") (by rw [typeLookup_type, builtinLookup_eq_fast]; kernel_rfl) (by decide +kernel) (by decide +kernel) (by decide +kernel) (by decide +kernel) (by rw [isSubtype_type]; kernel_rfl)
theorem entry_map_iter : entryFor table "map.__iter__" = some Builtin.«dict_keyiterator.__iter__» :=
  entryFor_alias (id' := "dict_keyiterator.__iter__") (by kernel_rfl) (by first | rfl | decide +kernel | (unfold String.splitOn; simp +decide [String.splitOnAux])) (by decide +kernel) (by kernel_rfl)
theorem entry_map_next : entryFor table "map.__next__" = some Builtin.«map.__next__» := entryFor_of_tree (by kernel_rfl)
theorem entry_map_new : entryFor table "map.__new__" = some Builtin.«map.__new__» := entryFor_of_tree (by kernel_rfl)
theorem mro_map : mroOf (.type "map") = pure [.type "map", .type "object"] := by rw [mroOf_type]; kernel_rfl
theorem lookup_map_new : typeLookup (.type "map") "__new__" = pure (some (.builtin "map.__new__")) := by rw [typeLookup_type, builtinLookup_eq_fast]; kernel_rfl
theorem called_map : TypeCalled "map" "map.__new__" "object.__init__" :=
  ⟨by decide +kernel, by decide +kernel, ⟨_, _, mro_map⟩, madeBy_type mro_map lookup_map_new (by decide +kernel), by decide +kernel, by rw [isSubtype_type]; kernel_rfl, slot_map_init⟩
theorem typeCall_map_2 (a b : Value) : checkTypeCall "map" ⟨[a, b], []⟩ = pure () := by kernel_rfl
theorem newCall_map_2 (a b : Value) : checkBuiltinCall "map.__new__" ⟨[.type "map", a, b], []⟩ = pure () := by kernel_rfl
theorem sub_map : isSubtype (.type "map") (.type "map") = pure true := by rw [isSubtype_type]; kernel_rfl
theorem args_map_next (a : Value) : argsOk "map.__next__" ⟨[a], []⟩ := by kernel_rfl
theorem args_map_iter (a : Value) : argsOk "map.__iter__" ⟨[a], []⟩ := by kernel_rfl

abbrev IsMap (h : Heap) (z T : Addr) : Prop :=
  h.get? z = some { cls := .type "map", dict := none, data := .fields #[.ref T, .type "int"], slots := #[] }
abbrev IsOne (h : Heap) (T : Addr) (a : Value) : Prop := h.get? T = some { cls := .type "tuple", data := .seq #[a] }
abbrev mapH1 (h : Heap) (l : Addr) : Heap := h.push { cls := .type "list_iterator", data := .fields #[.ref l, .int 0 0] }
abbrev mapH2 (h : Heap) (l : Addr) : Heap := (mapH1 h l).push { cls := .type "tuple", data := .seq #[.ref h.objs.size] }
abbrev mapH3 (h : Heap) (l : Addr) : Heap := (mapH2 h l).push { cls := .type "map", data := .fields #[.ref (mapH1 h l).objs.size, .type "int"] }

theorem meets_map_new (l : Addr) (xs : Array Value) :
    Meets (Builtin.«map.__new__» ⟨[.type "map", .type "int", .ref l], []⟩) (fun _ R s => s.heap.IsList l xs ∧
      R (.ok (.ret (.ref (mapH2 s.heap l).objs.size))) { s with heap := mapH3 s.heap l }) :=
  .of_wp fun prog w A R s h => by
    obtain ⟨hp, g, d, tk, os⟩ := s; obtain ⟨hl1, h⟩ := h
    have hsub := sub_map
    have hL1 : Heap.IsList (Shared.heap ⟨hp, g, d, tk, os⟩) l xs := hl1
    wp_walk using wpAny_pyIter_list hL1
    exact ⟨_, rfl, h⟩

section
variable {prog : Program} {w : World} {A : Around} {E : Value → Shared → Prop} {s : Shared}
theorem call_map_int {l : Addr} {xs : Array Value} {Q : Value → Shared → Prop} (hl : s.heap.IsList l xs)
    (h : ∀ h', IsMap h' (s.heap.objs.size + 2) (s.heap.objs.size + 1) → IsOne h' (s.heap.objs.size + 1) (.ref s.heap.objs.size) → h'.IsListIter s.heap.objs.size l 0 → h'.objs.size = s.heap.objs.size + 3 →
      (∀ c o, s.heap.get? c = some o → h'.get? c = some o) → Q (.ref (s.heap.objs.size + 2)) { s with heap := h' }) :
    wpAny (model prog w) A (call (.type "map") [.type "int", .ref l]) Q E s := by
  refine callType_new called_map (by decide) (typeCall_map_2 _ _) (newCall_map_2 _ _) (fun obj => F.args_object_init_3 obj _ _) entry_map_new
    (meets_map_new l xs) ⟨hl, ?_⟩
  have z1 : (mapH1 s.heap l).objs.size = s.heap.objs.size + 1 := Heap.size_push ..
  have z2 : (mapH2 s.heap l).objs.size = s.heap.objs.size + 2 := by rw [Heap.size_push, z1]
  have z3 : (mapH3 s.heap l).objs.size = s.heap.objs.size + 3 := by rw [Heap.size_push, z2]
  have g3 : (mapH3 s.heap l).get? (mapH2 s.heap l).objs.size = some _ := Heap.get?_push_size _ rfl
  have g2 : (mapH3 s.heap l).get? (mapH1 s.heap l).objs.size = some _ := Heap.get?_push_of_some _ (Heap.get?_push_size _ rfl)
  have g1 : (mapH3 s.heap l).get? s.heap.objs.size = some _ := Heap.get?_push_of_some _ (Heap.get?_push_of_some _ (Heap.get?_push_size _ rfl))
  show _ ∧ _
  rw [z1, z2] at g3
  rw [z1] at g2
  rw [z2]
  exact ⟨⟨_, g3, rfl⟩, h _ g3 g2 ⟨_, g1, rfl, rfl⟩ z3 fun c o x =>
    Heap.get?_push_of_some _ (Heap.get?_push_of_some _ (Heap.get?_push_of_some _ x))⟩

theorem map_next_item {z T it l : Addr} {k : Nat} {xs : Array Value} {x : Str} {t : Tok} {n : Int} {Q : Value → Shared → Prop} (hz : IsMap s.heap z T) (hT : IsOne s.heap T (.ref it)) (hzi : z ≠ it)
    (h1 : s.heap.IsListIter it l k) (hl : s.heap.IsList l xs) (hx : xs[k]? = some (.str x t)) (hn : PySem.intText? x = some n) (hxl : x.length ≤ 640)
    (hQ : ∀ h' tk tk', h'.IsListIter it l (k + 1) → Heap.SameBut it s.heap h' → Q (.int n tk) { s with heap := h', toks := tk' }) :
    wpAny (model prog w) A (Builtin.«map.__next__» ⟨[.ref z], []⟩) (fun fin s' => ∃ v, fin = .done (.ret v) ∧ Q v s') E s := by
  show wpAny _ _ (field (.ref z) 0 >>= _) _ _ _
  refine wpAny_bind (wpAny_field hz rfl (x := .ref T) rfl ?_)
  refine wpAny_bind (wpAny_seqItems hT rfl ?_)
  refine wpAny_bind ?_
  simp only [List.forIn_cons, List.forIn_nil, List.toList_toArray, ← Array.forIn_toList]
  refine wpAny_bind (wpAny_bind (wpAny_holding ?_))
  refine wpAny_nextOf_list_item h1 hl hx fun h₂ h1₂ hs₂ => wpAny_pure ?_
  refine wpAny_pure ?_
  refine wpAny_bind (wpAny_field (hs₂.extBut _ _ hzi hz) rfl (x := .type "int") rfl ?_)
  refine wpAny_bind (wpAny_holding ?_)
  refine KIN.call_text hn hxl ?_
  refine wpAny_bind (wpAny_letGo ?_)
  exact wpAny_pure ⟨_, rfl, hQ _ _ _ h1₂ hs₂⟩
theorem map_next_end {z T it l : Addr} {k : Nat} {xs : Array Value} {Q : Fin → Shared → Prop} (hh : A.handled = none) (hz : IsMap s.heap z T) (hT : IsOne s.heap T (.ref it))
    (h1 : s.heap.IsListIter it l k) (hl : s.heap.IsList l xs) (hx : xs[k]? = none)
    (hE : ∀ h' e, Heap.ExtBut it s.heap h' → (∃ o, h'.get? e = some o ∧ o.cls = .type "StopIteration") → E (.ref e) { s with heap := h' }) :
    wpAny (model prog w) A (Builtin.«map.__next__» ⟨[.ref z], []⟩) Q E s := by
  show wpAny _ _ (field (.ref z) 0 >>= _) _ _ _
  refine wpAny_bind (wpAny_field hz rfl (x := .ref T) rfl ?_)
  refine wpAny_bind (wpAny_seqItems hT rfl ?_)
  refine wpAny_bind ?_
  simp only [List.forIn_cons, List.forIn_nil, List.toList_toArray, ← Array.forIn_toList]
  refine wpAny_bind (wpAny_bind (wpAny_holding ?_))
  refine wpAny_nextOf_list_end hh h1 hl hx fun h₂ e hs₂ he => ?_
  exact hE _ _ hs₂ he
theorem pyNext_map_item {z T it l : Addr} {k : Nat} {xs : Array Value} {x : Str} {t : Tok} {n : Int} {Q : Option Value → Shared → Prop} (hz : IsMap s.heap z T) (hT : IsOne s.heap T (.ref it)) (hzi : z ≠ it)
    (h1 : s.heap.IsListIter it l k) (hl : s.heap.IsList l xs) (hx : xs[k]? = some (.str x t)) (hn : PySem.intText? x = some n) (hxl : x.length ≤ 640)
    (hQ : ∀ h' tk tk', h'.IsListIter it l (k + 1) → Heap.SameBut it s.heap h' → Q (some (.int n tk)) { s with heap := h', toks := tk' }) :
    wpAny (model prog w) A (pyNext (.ref z)) Q E s := by
  have hTy : s.TypeIs (.ref z) "map" := ⟨_, hz, rfl⟩
  unfold pyNext
  exact wpAny_bind (wpAny_attempt (wpAny_callSpecial?_slot (name := Str.ofString "__next__") hTy slot_map_next
    (wpAny_call_entry slot_map_next hTy entry_map_next
      (map_next_item hz hT hzi h1 hl hx hn hxl fun h' tk tk' a1 a2 => wpAny_pure (hQ h' tk tk' a1 a2)) (args_map_next _))))
theorem pyNext_map_end {z T it l : Addr} {k : Nat} {xs : Array Value} {Q : Option Value → Shared → Prop} (hh : A.handled = none) (hz : IsMap s.heap z T) (hT : IsOne s.heap T (.ref it))
    (h1 : s.heap.IsListIter it l k) (hl : s.heap.IsList l xs) (hx : xs[k]? = none)
    (hQ : ∀ h', Heap.ExtBut it s.heap h' → Q none { s with heap := h' }) : wpAny (model prog w) A (pyNext (.ref z)) Q E s := by
  have hTy : s.TypeIs (.ref z) "map" := ⟨_, hz, rfl⟩
  unfold pyNext
  refine wpAny_bind (wpAny_attempt (wpAny_callSpecial?_slot (name := Str.ofString "__next__") hTy slot_map_next
    (wpAny_call_entry slot_map_next hTy entry_map_next (map_next_end hh hz hT h1 hl hx fun h' e hk he => ?_) (args_map_next _))))
  obtain ⟨o, ho, hc⟩ := he
  refine wpAny_bind (wpAny_isInstance (T := "StopIteration") (b := true) ⟨o, ho, hc⟩ isSubtype_stop ?_)
  exact wpAny_pure (hQ _ hk)
theorem pyIter_map {z T : Addr} {Q : Value → Shared → Prop} (hz : IsMap s.heap z T) (h : Q (.ref z) s) : wpAny (model prog w) A (pyIter (.ref z)) Q E s := by
  have hT : s.TypeIs (.ref z) "map" := ⟨_, hz, rfl⟩
  refine wpAny_pyIter_slot hT slot_map_iter (wpAny_call_entry slot_map_iter hT entry_map_iter ?_ (args_map_iter _))
  show wpAny _ _ (ret (.ref z)) _ _ s
  exact wpAny_pure ⟨_, rfl, "map", _, hT, slot_map_next.lookup, h⟩
/-- two items of a map of int over texts -/
theorem unpack_map {z T it l : Addr} {x y : Str} {t u : Tok} {a b : Int} {Q : List Value → Shared → Prop} (hh : A.handled = none) (hz : IsMap s.heap z T) (hT : IsOne s.heap T (.ref it)) (hzi : z ≠ it) (hTi : T ≠ it) (hli : l ≠ it)
    (h1 : s.heap.IsListIter it l 0) (hl : s.heap.IsList l #[.str x t, .str y u]) (hx : PySem.intText? x = some a) (hxl : x.length ≤ 640) (hy : PySem.intText? y = some b) (hyl : y.length ≤ 640)
    (hQ : ∀ h' t1 t2 tk, Heap.ExtBut it s.heap h' → Q [.int a t1, .int b t2] { s with heap := h', toks := tk }) : wpAny (model prog w) A (unpackItems (.ref z) 2 none) Q E s := by
  unfold unpackItems
  refine wpAny_bind ?_
  unfold notIterableAtAll
  have hTy : s.TypeIs (.ref z) "map" := ⟨_, hz, rfl⟩
  refine wpAny_bind (wpAny_specialOf hTy slot_map_iter.lookup ?_)
  refine wpAny_pure ?_
  simp only [Bool.false_eq_true, if_false]
  refine wpAny_bind (wpAny_holding (pyIter_map hz ?_))
  refine wpAny_bind (wpAny_holding ?_)
  show wpAny _ _ (pyNext (.ref z) >>= _) _ E s
  refine wpAny_bind (pyNext_map_item hz hT hzi h1 hl rfl hx hxl fun h₁ a1 a1' i1 s1 => ?_)
  refine wpAny_bind (wpAny_holding ?_)
  show wpAny _ _ (pyNext (.ref z) >>= _) _ E _
  refine wpAny_bind (pyNext_map_item (s1.extBut _ _ hzi hz) (s1.extBut _ _ hTi hT) hzi i1 (hl.extBut s1.extBut hli) rfl hy hyl fun h₂ a2 a2' i2 s2 => ?_)
  refine wpAny_bind (wpAny_holding ?_)
  show wpAny _ _ (pure []) _ E _
  refine wpAny_pure (wpAny_pure (wpAny_pure ?_))
  rw [if_neg (by simp)]
  have s12 := s1.trans s2
  refine wpAny_bind (wpAny_holding (pyNext_map_end hh (s12.extBut _ _ hzi hz) (s12.extBut _ _ hTi hT) i2 (hl.extBut s12.extBut hli) rfl fun h₃ s3 => ?_))
  simp only [Option.isSome_none, Bool.false_eq_true, if_false]
  exact wpAny_pure (hQ h₃ _ _ _ fun c o hc e => s3 c o hc (s12.extBut c o hc e))
end
end Mine

namespace Mine
/-- a number's text -/
abbrev nt (n : Int) : PySem.Str := PySem.Str.ofString (toString n)
theorem nt_neg {n : Int} (h : n < 0) : (nt n).cps.toList = 45 :: (nt ((n.natAbs : Nat) : Int)).cps.toList := by
  obtain ⟨m, rfl⟩ : ∃ m : Nat, n = Int.negSucc m := by
    cases n with
    | ofNat m => exact absurd h (Int.not_lt.mpr (Int.natCast_nonneg m))
    | negSucc m => exact ⟨m, rfl⟩
  show (PySem.Str.ofString (toString (Int.negSucc m))).cps.toList = 45 :: (PySem.Str.ofString (toString (((m + 1 : Nat)) : Int))).cps.toList
  rw [signs_ofString, signs_ofString]
  show (("-" ++ Nat.repr (m + 1)).toList.map Char.toNat) = _
  rw [String.toList_append, List.map_append]
  rfl
theorem nt_digits (m : Nat) : PySem.NumText.AllDigits (nt (m : Int)).cps.toList := by
  intro c hc
  rw [KIN.signs_num] at hc
  obtain ⟨ch, hch, e⟩ := List.mem_map.mp hc
  have r := digit_range (Nat.isDigit_of_mem_toDigits (by decide) (by decide) hch)
  rw [← e]
  exact r
theorem nt_ne (m : Nat) : (nt (m : Int)).cps.toList ≠ [] := by
  rw [KIN.signs_num]
  intro e
  have h := toDigits_len_ge 10 m
  rw [List.map_eq_nil_iff.mp e] at h
  exact absurd h (by decide)
theorem nt_len {n : Int} (h0 : -(10 ^ 10) < n) (h1 : n < 10 ^ 10) : (nt n).length ≤ 11 := by
  by_cases h : 0 ≤ n
  · exact Nat.le_trans (KT.len_num h h1) (by decide)
  · have hl := KT.len_num (n := ((n.natAbs : Nat) : Int)) (by omega) (by omega)
    have e := congrArg List.length (nt_neg (n := n) (by omega))
    rw [Array.length_toList, List.length_cons, Array.length_toList] at e
    have hl' : (nt ((n.natAbs : Nat) : Int)).cps.size ≤ 10 := hl
    show (nt n).cps.size ≤ 11
    omega
theorem nt_reads {n : Int} (h0 : -(10 ^ 10) < n) (h1 : n < 10 ^ 10) : PySem.intText? (nt n) = some n := by
  by_cases h : 0 ≤ n
  · exact KIN.num_reads h h1
  · have e := PySem.intText_neg (nt_neg (n := n) (by omega)) (nt_digits _) (nt_ne _) (Nat.le_trans (nt_len h0 h1) (by decide))
    rw [e, KIN.signs_num, KIN.val_back]
    congr 1
    omega
theorem nt_signs (n : Int) : ∀ c ∈ (nt n).cps.toList, c ≠ 46 := by
  intro c hc
  by_cases h : 0 ≤ n
  · obtain ⟨m, rfl⟩ := Int.eq_ofNat_of_zero_le h
    have := nt_digits m c hc
    omega
  · rw [nt_neg (by omega)] at hc
    rcases List.mem_cons.mp hc with rfl | hc
    · decide
    · have := nt_digits _ c hc
      omega
open Builtin Builtin.Str in
section
variable {M : Model} {A : Around} {E : Value → Shared → Prop} {s : Shared} {l : List Nat} {p : List Value} {r : List Nat}
  {f : Nat → List Value × Writer × List Nat → Sem (ForInStep (List Value × Writer × List Nat))} {Q : List Value × Writer × List Nat → Shared → Prop}
  {w : Writer} {T x y : PySem.Str} {N K : Nat} {o : Option Value}
theorem after_intS {c : Builtin.Str.Percent} {n : Int} {d : List Nat} (g : KPc.Good w T N) (h1 : c.alt = false) (h2 : c.type = 100 ∨ c.type = 105 ∨ c.type = 117) (h3 : c.prec = none) (hn : -(10 ^ 10) < n) (hm : n < 10 ^ 10)
    (hd : d = (nt ((n.natAbs : Nat) : Int)).cps.toList) (ho : o = none) (h : ∀ w', KPc.Good w' (T ++ nt n) (N + 11) → wpAny M A (forIn l (p, w', r) f) Q E s) :
    wpAny M A (forIn l (p, w.add ⟨(Builtin.Str.percentInt c (decide (n < 0)) d).toArray⟩ o, r) f) Q E s := by
  have e : Builtin.Str.percentInt c (decide (n < 0)) d = (nt n).cps.toList := by
    by_cases h0 : 0 ≤ n
    · rw [KPc.int_text c h1 h2 h3 h0, hd, Int.natAbs_of_nonneg h0]
    · have hneg : decide (n < 0) = true := decide_eq_true (by omega)
      rw [nt_neg (by omega), ← hd]
      unfold Builtin.Str.percentInt
      rcases h2 with h2 | h2 | h2 <;> simp [h1, h2, h3, hneg]
  rw [e]
  exact KPc.after_str g (nt_len hn hm) (KPc.obj_none ho) h
theorem after_intS0 {c : Builtin.Str.Percent} {n : Int} {d : List Nat} (g : KPc.Good w PySem.Str.empty N) (h1 : c.alt = false) (h2 : c.type = 100 ∨ c.type = 105 ∨ c.type = 117) (h3 : c.prec = none) (hn : -(10 ^ 10) < n) (hm : n < 10 ^ 10)
    (hd : d = (nt ((n.natAbs : Nat) : Int)).cps.toList) (ho : o = none) (h : ∀ w', KPc.Good w' (nt n) (N + 11) → wpAny M A (forIn l (p, w', r) f) Q E s) :
    wpAny M A (forIn l (p, w.add ⟨(Builtin.Str.percentInt c (decide (n < 0)) d).toArray⟩ o, r) f) Q E s :=
  after_intS g h1 h2 h3 hn hm hd ho fun w' g' => h w' (by rw [KPc.empty_app] at g'; exact g')
end
theorem cut_uniq : ∀ (as ps bs qs : List Nat), 46 ∉ as → 46 ∉ ps → as ++ 46 :: bs = ps ++ 46 :: qs → as = ps ∧ bs = qs
  | [], [], _, _, _, _, e => ⟨rfl, (List.cons.inj e).2⟩
  | [], p :: ps, _, _, _, h2, e => absurd (List.mem_cons.mpr (.inl (List.cons.inj e).1)) h2
  | a :: as, [], _, _, h1, _, e => absurd (List.mem_cons.mpr (.inl (List.cons.inj e).1.symm)) h1
  | a :: as, p :: ps, bs, qs, h1, h2, e => by
    have e' := List.cons.inj e
    have r := cut_uniq as ps bs qs (fun m => h1 (List.mem_cons_of_mem _ m)) (fun m => h2 (List.mem_cons_of_mem _ m)) e'.2
    exact ⟨by rw [e'.1, r.1], r.2⟩
theorem dot_is : (Str.ofString ".") = (⟨#[46]⟩ : Str) := by decide +kernel
theorem app_list (x y : Str) : (x ++ y).cps.toList = x.cps.toList ++ y.cps.toList := by
  rw [Str.cps_append, Array.toList_append]
theorem str_eq {x y : Str} (h : x.cps.toList = y.cps.toList) : x = y := by
  cases x; cases y
  exact congrArg PySem.Str.mk (Array.toList_inj.mp h)
theorem split_two (a b : Int) : Txt.split (nt a ++ Str.ofString "." ++ nt b) (Str.ofString ".") = [nt a, nt b] := by
  rw [dot_is]
  have ha : 46 ∉ (nt a).cps.toList := fun h => nt_signs a 46 h rfl
  have hb : 46 ∉ (nt b).cps.toList := fun h => nt_signs b 46 h rfl
  have hl := split_len (nt a ++ ⟨#[46]⟩ ++ nt b) 46
  have hf := StrLaws.split_free (nt a ++ ⟨#[46]⟩ ++ nt b) 46
  have hj := StrLaws.join_split (nt a ++ ⟨#[46]⟩ ++ nt b) ⟨#[46]⟩
  rw [app_list, app_list, cnt_append, cnt_append, cnt_none 46 _ ha, cnt_none 46 _ hb] at hl
  have h1 : PyProof.Rows.cnt 46 (⟨#[46]⟩ : Str).cps.toList = 1 := by decide +kernel
  rw [h1] at hl
  generalize Txt.split (nt a ++ ⟨#[46]⟩ ++ nt b) ⟨#[46]⟩ = S at hl hf hj
  match S, hl, hf, hj with
  | [p, q], _, hf, hj =>
    have e : (Str.join ⟨#[46]⟩ [p, q]).cps.toList = p.cps.toList ++ 46 :: q.cps.toList := by
      show (p ++ ⟨#[46]⟩ ++ q).cps.toList = _
      rw [app_list, app_list]
      simp
    rw [hj, app_list, app_list] at e
    have r := cut_uniq (nt a).cps.toList p.cps.toList (nt b).cps.toList q.cps.toList ha (hf p (by simp)) (by simpa using e)
    rw [str_eq r.1, str_eq r.2]
  | [], hl, _, _ => simp at hl
  | [_], hl, _, _ => simp at hl
  | _ :: _ :: _ :: _, hl, _, _ => simp at hl; omega
end Mine

namespace Mine
local macro_rules | `(tactic| walk_at "call type:map") => `(tactic| (k_here; refine stop_intro ?_))
section
variable {w : World} {A₀ : Around} {base h₀ : Heap} {e1 : Env} {L : Addr} {m mg mb : Str → Option Value} {p : Program} {loose : List Str} {mean : ExcName → Option Value} {s : Shared} {Q : Value → Shared → Prop} {E : Value → Shared → Prop}
set_option maxHeartbeats 1000000 in
theorem glc_call {a b : Int} {t : Tok} :
   (hd.heap_39 w.params).In h₀ → Below A₀ base [] h₀ → Fr h₀ L s.heap m → Top p loose mean mg mb h₀ → e1.frame = some L → e1.scope.kind = .function →
   -(10 ^ 10) < a → a < 10 ^ 10 → 0 ≤ b → b < 10 ^ 10 →
   (∀ h' tk D t1 t2, (∀ b o, s.heap.get? b = some o → h'.get? b = some o) → s.heap.get? D = none → h'.get? D = some ({ cls := .type "tuple", data := .seq #[.int a t1, .int b t2] } : Obj) → Q (.ref D) { s with heap := h', toks := tk }) →
   wpAny (model Challenge.rw_mr0022_01.row.prog w) (callerA.deeper e1) (call (.ref 28) [.str (nt a ++ Str.ofString "." ++ nt b) t]) Q E s := by
  k_fill
  intro X B F T hf hke ha0 ha1 hb0 hb1 hQ
  refine wpAny_call ?_
  (refine' enter_top (news := []) B F X ?N T ?kA hf hke ?k6 ?k7 ?k8 ?k9 ?kB ?_ ?c5 ?c2 ?c3 ?c4; (case N => exact fun q hq => nomatch hq); (case kA => exact rfl); (case k6 => k_is); (case k7 => k_is); (case k8 => k_room); (case k9 => exact BindsTo.of_eq rfl); (case kB => exact locs rfl); (case c2 => exact rfl); (case c3 => exact rfl); (case c4 => exact rfl); (case c5 => decide); k_whole)
  intro g' L' h' hg hL' F' N' B' X' T' _
  have hG : ∀ b o, s.heap.get? b = some o → g'.get? b = some o := fun b o e => hg b o e (fun q => nomatch q)
  have hlen : (nt a ++ Str.ofString "." ++ nt b).length ≤ 30 := by
    rw [Str.length_append, Str.length_append]
    have h1 := nt_len ha0 ha1
    have h2 := nt_len (n := b) (by omega) hb1
    have h3 : (Str.ofString ".").length = 1 := by decide
    omega
  have hsp := split_two a b
  generalize hx : nt a ++ Str.ofString "." ++ nt b = x at hlen hsp F' ⊢
  have F1 : Fr g' L' h' (fun y => List.lookup y [(("index" : Str), Value.str x t)]) := F'
  clear F'
  try dsimp only
  w_strict k_steps
  all_goals (try unfold StopHere)
  rename Fr _ _ _ _ => F2
  rename News _ _ _ _ => N2
  rename List.map _ _ = Txt.split _ _ => hl
  rw [hsp] at hl
  rename List (PySem.Str × Tok) => l
  obtain ⟨u1, u2, rfl⟩ : ∃ u1 u2, l = [(nt a, u1), (nt b, u2)] := by
    match l, hl with
    | [(p, u1), (q, u2)], hl =>
      simp only [List.map_cons, List.map_nil, List.cons.injEq, and_true] at hl
      exact ⟨u1, u2, by rw [hl.1, hl.2]⟩
    | [], hl => simp at hl
    | [_], hl => simp at hl
    | _ :: _ :: _ :: _, hl => simp at hl
  have hL1 := (N2 _ (List.Mem.head _)).1
  refine call_map_int (xs := #[.str (nt a) u1, .str (nt b) u2]) ⟨_, hL1, rfl, _, rfl⟩ fun h₃ m1 m2 m3 m4 m5 => ?_
  rw [assign_Tuple]
  refine wpAny_bind (wpAny_standAt ?_)
  unfold unpack
  show wpAny _ _ (holding _ (unpackItems _ 2 none) >>= _) _ _ _
  refine wpAny_bind (wpAny_holding ?_)
  refine unpack_map rfl m1 m2 (Nat.ne_of_gt (Nat.lt_add_of_pos_right (by decide))) (Nat.ne_of_gt (Nat.lt_add_of_pos_right (by decide))) (Nat.ne_of_lt (Heap.lt_size hL1)) m3 ⟨_, m5 _ _ hL1, rfl, _, rfl⟩ (nt_reads ha0 ha1) (Nat.le_trans (nt_len ha0 ha1) (by decide)) (nt_reads (by omega) hb1) (Nat.le_trans (nt_len (by omega) hb1) (by decide)) fun h₄ t1 t2 tk₄ hx4 => ?_
  have hk4 : ∀ c o, _ → h₄.get? c = some o := fun c o (e : Heap.get? _ c = some o) => hx4 c o (Nat.ne_of_lt (Heap.lt_size e)) (m5 c o e)
  have F4 := F2.keeps hk4
  have N4 : News g' L' h₄ _ := fun q hq => ⟨hk4 _ _ (N2 q hq).1, (N2 q hq).2⟩
  clear F2 N2 m1 m2 m3 m4 m5 hk4 hx4
  w_strict k_steps
  rename Fr _ _ _ _ => F5
  rename News _ _ _ _ => N5
  exact hQ _ _ _ _ _ (fun b o e => F5.keep b o (hG b o e)) (fresh_of hg (N5 _ (List.Mem.head _)).2.2 (fun q => nomatch q)) (N5 _ (List.Mem.head _)).1
end
end Mine

namespace Mine
abbrev pairObj (k : Int) (t1 t2 : Tok) : Obj := { cls := .type "tuple", data := .seq #[.int (k.fdiv 100) t1, .int (k.fmod 100) t2] }
/-- a turn of the row's comprehension -/
def RowEl (news : List (Addr × Obj)) (k : Int) (y : Value) (news' : List (Addr × Obj)) : Prop := ∃ a t1 t2, y = .ref a ∧ news' = (a, pairObj k t1 t2) :: news
/-- the row's places, each in the ledger -/
def RowIn (ys : List Value) (ns : List Int) (nr : List (Addr × Obj)) : Prop :=
  ys.length = ns.length ∧ ∀ (i : Nat) (n : Int), ns[i]? = some n → ∃ (a : Addr) (t1 t2 : Tok), ys[i]? = some (Value.ref a) ∧ (a, pairObj n t1 t2) ∈ nr
section
variable {prog : Program} {w : World} {A : Around} {h₀ : Heap} {L : Addr} {m : Str → Option Value} {env : Env} {elt : Expr} {x : Str} {scope : Scope} {cl : List (Str × Addr)} {s : Shared} {S : List (Addr × Obj) → Prop} {Fin : List Value → List (Addr × Obj) → Prop} {news : List (Addr × Obj)}
theorem row_rest {vs : List Value} {ns : List Int} (hi : IntsAre vs ns)
    (turn : ∀ k t I oI C oC D m₂ ys nr h tk (E' : Value → Shared → Prop), k ∈ ns → LCg.NsObj oC m₂ → m₂ x = some (.int k t) → Fr h₀ L h m → News h₀ L h ((I, oI) :: (C, oC) :: (D, LCg.lst ys) :: (nr ++ news)) → LCg.Off3 I C D (nr ++ news) → ((@Ne Nat I C) ∧ (@Ne Nat I D) ∧ (@Ne Nat C D)) →
      wpAny (model prog w) A (eval elt (compEnvC scope cl C env)) (LCg.CompEnd h₀ L m { s with heap := h, toks := tk } I oI C oC D (LCg.lst ys) S (RowEl (nr ++ news) k)) E' { s with heap := h, toks := tk })
    (fin : ∀ ys nr, RowIn ys ns nr → Fin ys (nr ++ news)) : LCg.CompRest prog w A h₀ L m env elt x scope cl s S (fun i v => vs.toArray[i]? = some v) Fin vs.toArray.size 0 [] news := by
  have key : ∀ (j i : Nat) (ys : List Value) (nr : List (Addr × Obj)), i + j = ns.length → RowIn ys (ns.take i) nr → LCg.CompRest prog w A h₀ L m env elt x scope cl s S (fun i v => vs.toArray[i]? = some v) Fin j i ys (nr ++ news) := by
    intro j
    induction j with
    | zero =>
      intro i ys nr hj hy
      have e : i = ns.length := by omega
      subst e
      rw [List.take_length] at hy
      exact LCg.CompRest.zero (fin ys nr hy)
    | succ j ih =>
      intro i ys nr hj hy
      refine LCg.CompRest.succ ?_
      intro v I oI C oC D m₂ h tk E' hv hC hx F N off ne
      obtain ⟨k, t, e, hk⟩ := IntsAre.at hi i v (by simpa using hv)
      subst e
      refine wpAny_mono (turn k t I oI C oC D m₂ ys nr h tk E' (List.mem_of_getElem? hk) hC hx F N off ne) (fun y s₂ hq => ?_) fun _ _ e => e
      obtain ⟨h', tk', nw, e, F', N', off', hS, a, t1, t2, hy', hn⟩ := hq
      subst hn
      subst hy'
      refine ⟨h', tk', _, e, F', N', off', hS, ih (i + 1) _ ((a, pairObj k t1 t2) :: nr) (by omega) ?_⟩
      rw [List.take_add_one, hk]
      refine ⟨by simp [hy.1], fun i' n' e' => ?_⟩
      have hl : (ns.take i).length = i := by rw [List.length_take]; omega
      by_cases hlt : i' < i
      · rw [List.getElem?_append_left (by omega)] at e'
        obtain ⟨a', u1, u2, q1, q2⟩ := hy.2 i' n' e'
        have hi' := hy.1
        exact ⟨a', u1, u2, by rw [List.getElem?_append_left (by omega)]; exact q1, .tail _ q2⟩
      · rw [List.getElem?_append_right (by omega), hl] at e'
        have e0 : i' - i = 0 := by
          cases z : i' - i with
          | zero => rfl
          | succ q => rw [z] at e'; simp at e'
        rw [e0] at e'
        have e1 : k = n' := by simpa using e'
        subst e1
        have e2 : i' = i := by omega
        subst e2
        have hi' := hy.1
        refine ⟨a, t1, t2, ?_, .head _⟩
        rw [List.getElem?_append_right (by omega)]
        simp [hi', hl]
  have := key ns.length 0 [] [] (by omega) ⟨by simp, fun i n e => by simp at e⟩
  rw [List.size_toArray, hi.length]
  exact this
theorem row_at {h : Heap} {rw' : Addr} {ys : List Value} {ns : List Int} {nr : List (Addr × Obj)} (R : RowIn ys ns nr) (N : News h₀ L h ((rw', LCg.lst ys) :: (nr ++ news))) : RowAt h rw' ns :=
  ⟨ys, ⟨_, (N _ (.head _)).1, rfl, _, rfl⟩, R.1, fun i n e => by
    obtain ⟨a, t1, t2, e1, hm⟩ := R.2 i n e
    exact ⟨a, t1, t2, e1, _, (N _ (.tail _ (List.mem_append_left _ hm))).1, rfl, _, rfl⟩⟩
theorem row_end {h2 h3 : Heap} {s₁ : Shared} {I C D a3 : Addr} {oI oC oD : Obj} {x : Addr × Obj} {k : Int} {u3 u4 : Tok} {tk3 : Nat} (F2 : Fr h₀ L h2 m) (N2 : News h₀ L h2 (x :: (I, oI) :: (C, oC) :: (D, oD) :: news)) (off : LCg.Off3 I C D news)
    (k3 : ∀ b o, h2.get? b = some o → h3.get? b = some o) (z3 : h2.get? a3 = none) (o3 : h3.get? a3 = some (pairObj k u3 u4)) (hS : S ((a3, pairObj k u3 u4) :: news)) :
    LCg.CompEnd h₀ L m s₁ I oI C oC D oD S (RowEl news k) (.ref a3) { s₁ with heap := h3, toks := tk3 } := by
  have nz : ∀ {b : Addr} {o : Obj}, h2.get? b = some o → a3 ≠ b := fun e q => by rw [q] at z3; rw [z3] at e; cases e
  have up : ∀ q ∈ x :: (I, oI) :: (C, oC) :: (D, oD) :: news, h3.get? q.1 = some q.2 ∧ q.1 ≠ L ∧ h₀.get? q.1 = none := fun q hq => ⟨k3 _ _ (N2 q hq).1, (N2 q hq).2⟩
  refine ⟨h3, tk3, (a3, pairObj k u3 u4) :: news, rfl, F2.keeps k3, ?_, ?_, hS, a3, u3, u4, rfl, rfl⟩
  · intro q hq
    rcases List.mem_cons.mp hq with rfl | hq
    · exact up _ (.tail _ (.head _))
    rcases List.mem_cons.mp hq with rfl | hq
    · exact up _ (.tail _ (.tail _ (.head _)))
    rcases List.mem_cons.mp hq with rfl | hq
    · exact up _ (.tail _ (.tail _ (.tail _ (.head _))))
    rcases List.mem_cons.mp hq with rfl | hq
    · refine ⟨o3, ?_, ?_⟩
      · obtain ⟨oL, _, _, eL, _⟩ := F2.ns
        exact nz eL
      · cases z : h₀.get? a3 with
        | none => rfl
        | some o => rw [F2.keep _ _ z] at z3; cases z3
    · exact up _ (.tail _ (.tail _ (.tail _ (.tail _ hq))))
  · refine LCg.Off3.of fun q hq => ?_
    rcases List.mem_cons.mp hq with rfl | hq
    · exact ⟨nz (N2 _ (.tail _ (.head _))).1, nz (N2 _ (.tail _ (.tail _ (.head _)))).1, nz (N2 _ (.tail _ (.tail _ (.tail _ (.head _))))).1⟩
    · exact off.mem q hq
theorem law_news {h : Heap} {nr : List (Addr × Obj)} {r a b c d e f : Addr × Obj} (N2 : News h₀ L h (r :: (nr ++ [a, b, c, d, e, f]))) : News h₀ L h (r :: a :: e :: f :: nr) := by
  intro q hq
  rcases List.mem_cons.mp hq with rfl | hq
  · exact N2 _ (.head _)
  rcases List.mem_cons.mp hq with rfl | hq
  · exact N2 _ (.tail _ (List.mem_append_right _ (.head _)))
  rcases List.mem_cons.mp hq with rfl | hq
  · exact N2 _ (.tail _ (List.mem_append_right _ (.tail _ (.tail _ (.tail _ (.tail _ (.head _)))))))
  rcases List.mem_cons.mp hq with rfl | hq
  · exact N2 _ (.tail _ (List.mem_append_right _ (.tail _ (.tail _ (.tail _ (.tail _ (.tail _ (.head _))))))))
  · exact N2 _ (.tail _ (List.mem_append_left _ hq))
end
end Mine

namespace Mine
theorem filt_last {f : Nat → Bool} : ∀ (n r : Nat), r < n → f r = true → (∀ p, r < p → p < n → f p = false) → ((List.range n).filter f).getLast? = some r
  | 0, r, h, _, _ => absurd h (by omega)
  | n + 1, r, h, hf, hn => by
    rw [List.range_succ, List.filter_append]
    by_cases e : r = n
    · subst e
      have e1 : [r].filter f = [r] := by simp [hf]
      rw [e1, List.getLast?_append]
      rfl
    · have e1 : [n].filter f = [] := by simp [hn n (by omega) (by omega)]
      rw [e1, List.append_nil]
      exact filt_last n r (by omega) hf fun p h1 h2 => hn p h1 (by omega)
theorem filt_none {f : Nat → Bool} : ∀ (n : Nat), (∀ p, p < n → f p = false) → (List.range n).filter f = []
  | 0, _ => rfl
  | n + 1, h => by
    rw [List.range_succ, List.filter_append, filt_none n fun p hp => h p (by omega)]
    simp [h n (by omega)]
theorem filt_head {f : Nat → Bool} : ∀ (n r : Nat), r < n → f r = true → (∀ p, p < r → f p = false) → ((List.range n).filter f).head? = some r
  | 0, r, h, _, _ => absurd h (by omega)
  | n + 1, r, h, hf, hn => by
    rw [List.range_succ, List.filter_append]
    by_cases e : r = n
    · subst e
      rw [filt_none r hn]
      simp [hf]
    · rw [List.head?_append, filt_head n r (by omega) hf hn]
      rfl
theorem take_getD {nums : List Int} {col p : Nat} (h : p < col) : (nums.take col).getD p 0 = nums.getD p 0 := by
  rw [List.getD_eq_getElem?_getD, List.getD_eq_getElem?_getD, List.getElem?_take_of_lt h]
theorem sg_cases (x y : Int) : (sg x y = 1 ∧ y < x) ∨ (sg x y = -1 ∧ x < y) ∨ (sg x y = 0 ∧ x = y) := by
  unfold sg
  by_cases h : y < x
  · rw [if_pos h]; exact .inl ⟨rfl, h⟩
  · rw [if_neg h]
    by_cases h2 : x < y
    · rw [if_pos h2]; exact .inr (.inl ⟨rfl, h2⟩)
    · rw [if_neg h2]; exact .inr (.inr ⟨rfl, by omega⟩)
theorem ok_step {nums ans : List Int} {i p : Nat} : okAt nums ans (i + 1) p ↔ sg (nums.getD p 0) (nums.getD i 0) ∈ ans := by
  unfold okAt
  constructor
  · rintro (h | h)
    · exact absurd h (by omega)
    · exact h
  · exact .inr
theorem due_one {nums ans : List Int} {col r : Nat} {p G : Int} (hr : r < col) (hc : col ≤ nums.length) (hG : nums.getD r 0 = G)
    (h1 : 0 ∈ ans → ∀ q, r < q → q < col → nums.getD q 0 ≠ G) (h0 : 0 ∉ ans → ∀ q, q < r → nums.getD q 0 ≠ G)
    (d1 : 0 ∈ ans → (((List.range (nums.take col).length).filter fun k => (nums.take col).getD k 0 == G).map (fun (k : Nat) => (k : Int))).getLast? = some p)
    (d0 : 0 ∉ ans → (((List.range (nums.take col).length).filter fun k => (nums.take col).getD k 0 == G).map (fun (k : Nat) => (k : Int))).head? = some p) : p = (r : Int) := by
  have hl : (nums.take col).length = col := by rw [List.length_take]; omega
  rw [hl] at d1 d0
  have fr : ((nums.take col).getD r 0 == G) = true := by rw [take_getD hr, hG]; simp
  by_cases z : 0 ∈ ans
  · have e := d1 z
    rw [List.getLast?_map, filt_last col r hr fr fun q h2 h3 => by rw [take_getD h3]; simpa using h1 z q h2 h3] at e
    exact (Option.some.inj e).symm
  · have e := d0 z
    rw [List.head?_map, filt_head col r hr fr fun q h2 => by rw [take_getD (by omega)]; simpa using h0 z q h2] at e
    exact (Option.some.inj e).symm
/-- the plain law -/
theorem plain_law {nums ans : List Int} {col r : Nat} {p : Int} (hc : col ≤ nums.length) (_ : ∀ a ∈ ans, a = -1 ∨ a = 0 ∨ a = 1) (h : LastOf nums ans col r) (hd : DueIs (nums.take col) ans p) : p = (r : Int) := by
  obtain ⟨hre, hrc, hend⟩ := h
  have hl : (nums.take col).length = col := by rw [List.length_take]; omega
  have hA : ∀ q, r < q → q < col → sg (nums.getD q 0) (nums.getD r 0) ∉ ans := by
    intro q h1 h2
    rcases hend with hn | ⟨i', hn, hi⟩
    · exact fun hm => hn q h1 (by omega) (ok_step.mpr hm)
    · exact fun hm => hn.2.2.2 q h1 (by omega) (ok_step.mpr hm)
  obtain ⟨gl, hgl, d1, d0⟩ := hd
  rcases hgl with ⟨a1, am, b, hb, hrun, hstart, rfl⟩ | ⟨G, ⟨hnot, hGm, hmax, hmin, hfst⟩, rfl⟩
  · rw [hl] at d1 d0 hb hrun
    by_cases z : 0 ∈ ans
    · have e : r = col - 1 := by
        rcases Nat.lt_or_ge (r + 1) col with h1 | h1
        · have := hA (r + 1) (by omega) h1
          rcases sg_cases (nums.getD (r + 1) 0) (nums.getD r 0) with ⟨e, _⟩ | ⟨e, _⟩ | ⟨e, _⟩ <;> rw [e] at this
          · exact absurd a1 this
          · exact absurd am this
          · exact absurd z this
        · omega
      have e2 := d1 z
      unfold rangeKs at e2
      obtain ⟨k, hk⟩ : ∃ k, col - b = k + 1 := ⟨col - b - 1, by omega⟩
      rw [hk, List.range_succ, List.map_append, List.getLast?_append] at e2
      have e3 : (b : Int) + (k : Int) = p := by simpa using e2
      omega
    · have hne : ∀ x y : Int, sg x y ∉ ans → x = y := by
        intro x y hs
        rcases sg_cases x y with ⟨e, _⟩ | ⟨e, _⟩ | ⟨_, e⟩
        · rw [e] at hs; exact absurd a1 hs
        · rw [e] at hs; exact absurd am hs
        · exact e
      have hsame : ∀ q, r ≤ q → q < col → nums.getD q 0 = nums.getD r 0 := by
        intro q h1 h2
        rcases Nat.eq_or_lt_of_le h1 with rfl | h1
        · rfl
        · exact hne _ _ (hA q h1 h2)
      have e2 := d0 z
      unfold rangeKs at e2
      obtain ⟨k, hk⟩ : ∃ k, col - b = k + 1 := ⟨col - b - 1, by omega⟩
      rw [hk, List.range_succ_eq_map] at e2
      have e3 : (b : Int) = p := by simpa using e2
      have hbr : b = r := by
        rcases Nat.lt_trichotomy b r with hlt | rfl | hgt
        · exfalso
          cases hre with
          | zero => exact absurd hlt (by omega)
          | @step i _ hi hn =>
            obtain ⟨n1, n2, n3, n4⟩ := hn
            have q1 := ok_step.mp n3
            have q2 : nums.getD (r - 1) 0 = nums.getD i 0 := by
              rcases Nat.eq_or_lt_of_le (Nat.le_sub_one_of_lt n1) with e | e
              · rw [← e]
              · exact hne _ _ fun hm => n4 (r - 1) e (by omega) (ok_step.mpr hm)
            have q3 := hrun r hlt hrc
            rw [take_getD hrc, take_getD (by omega), q2] at q3
            rcases sg_cases (nums.getD r 0) (nums.getD i 0) with ⟨_, e⟩ | ⟨_, e⟩ | ⟨e, _⟩
            · omega
            · omega
            · rw [e] at q1
              exact z q1
        · rfl
        · exfalso
          rcases hstart with e | e
          · omega
          · rw [take_getD hb, take_getD (by omega)] at e
            exact e ((hsame b (by omega) hb).trans (hsame (b - 1) (by omega) (by omega)).symm)
      omega
  · have hmem : ∀ q, q < col → nums.getD q 0 ∈ nums.take col := by
      intro q hq
      rw [← take_getD hq, List.getD_eq_getElem?_getD, List.getElem?_eq_getElem (by omega)]
      exact List.getElem_mem _
    obtain ⟨g, hg, hgG⟩ : ∃ g, g < col ∧ nums.getD g 0 = G := by
      obtain ⟨g, hg, e⟩ := List.mem_iff_getElem.mp hGm
      refine ⟨g, by omega, ?_⟩
      have hgc : g < col := by omega
      rw [← take_getD (nums := nums) (col := col) hgc, List.getD_eq_getElem?_getD, List.getElem?_eq_getElem hg]
      exact e
    by_cases a1 : 1 ∈ ans
    · have am : -1 ∉ ans := fun h => hnot ⟨a1, h⟩
      have inv : ∀ r, Reach nums ans r → (∀ q, q ≤ r → nums.getD q 0 ≤ nums.getD r 0) ∧ (0 ∉ ans → ∀ q, q < r → nums.getD q 0 < nums.getD r 0) := by
        intro r hr
        induction hr with
        | zero => exact ⟨fun q hq => by rw [Nat.le_zero.mp hq]; exact Int.le_refl _, fun _ q hq => absurd hq (by omega)⟩
        | @step i i' _ hn ih =>
          obtain ⟨n1, n2, n3, n4⟩ := hn
          have q1 := ok_step.mp n3
          have q2 : ∀ q, i < q → q < i' → nums.getD q 0 ≤ nums.getD i 0 := by
            intro q h1 h2
            rcases sg_cases (nums.getD q 0) (nums.getD i 0) with ⟨e, _⟩ | ⟨_, e⟩ | ⟨_, e⟩
            · exact absurd (ok_step.mpr (by rw [e]; exact a1)) (n4 q h1 h2)
            · omega
            · omega
          have q3 : nums.getD i 0 ≤ nums.getD i' 0 ∧ (0 ∉ ans → nums.getD i 0 < nums.getD i' 0) := by
            rcases sg_cases (nums.getD i' 0) (nums.getD i 0) with ⟨_, e⟩ | ⟨e, _⟩ | ⟨e, e'⟩
            · exact ⟨by omega, fun _ => e⟩
            · rw [e] at q1; exact absurd q1 am
            · rw [e] at q1; exact ⟨by omega, fun z => absurd q1 z⟩
          refine ⟨fun q hq => ?_, fun z q hq => ?_⟩
          · rcases Nat.lt_or_ge i q with h1 | h1
            · rcases Nat.eq_or_lt_of_le hq with rfl | h2
              · exact Int.le_refl _
              · exact Int.le_trans (q2 q h1 h2) q3.1
            · exact Int.le_trans (ih.1 q h1) q3.1
          · rcases Nat.lt_or_ge i q with h1 | h1
            · exact Int.lt_of_le_of_lt (q2 q h1 hq) (q3.2 z)
            · exact Int.lt_of_le_of_lt (ih.1 q h1) (q3.2 z)
      have after : ∀ q, r < q → q < col → nums.getD q 0 ≤ nums.getD r 0 ∧ (0 ∈ ans → nums.getD q 0 < nums.getD r 0) := by
        intro q h1 h2
        have hs := hA q h1 h2
        rcases sg_cases (nums.getD q 0) (nums.getD r 0) with ⟨e, _⟩ | ⟨_, e⟩ | ⟨e, e'⟩
        · rw [e] at hs; exact absurd a1 hs
        · exact ⟨by omega, fun _ => e⟩
        · rw [e] at hs; exact ⟨by omega, fun z => absurd z hs⟩
      have top : nums.getD g 0 ≤ nums.getD r 0 := by
        rcases Nat.lt_or_ge r g with h1 | h1
        · exact (after g h1 hg).1
        · exact (inv r hre).1 g h1
      have up := hmax a1 _ (hmem r hrc)
      have eG : nums.getD r 0 = G := by omega
      exact due_one hrc hc eG (fun z q h1 h2 => by have := (after q h1 h2).2 z; omega) (fun z q h1 => by have := (inv r hre).2 z q h1; omega) d1 d0
    · by_cases am : -1 ∈ ans
      · have inv : ∀ r, Reach nums ans r → (∀ q, q ≤ r → nums.getD r 0 ≤ nums.getD q 0) ∧ (0 ∉ ans → ∀ q, q < r → nums.getD r 0 < nums.getD q 0) := by
          intro r hr
          induction hr with
          | zero => exact ⟨fun q hq => by rw [Nat.le_zero.mp hq]; exact Int.le_refl _, fun _ q hq => absurd hq (by omega)⟩
          | @step i i' _ hn ih =>
            obtain ⟨n1, n2, n3, n4⟩ := hn
            have q1 := ok_step.mp n3
            have q2 : ∀ q, i < q → q < i' → nums.getD i 0 ≤ nums.getD q 0 := by
              intro q h1 h2
              rcases sg_cases (nums.getD q 0) (nums.getD i 0) with ⟨_, e⟩ | ⟨e, _⟩ | ⟨_, e⟩
              · omega
              · exact absurd (ok_step.mpr (by rw [e]; exact am)) (n4 q h1 h2)
              · omega
            have q3 : nums.getD i' 0 ≤ nums.getD i 0 ∧ (0 ∉ ans → nums.getD i' 0 < nums.getD i 0) := by
              rcases sg_cases (nums.getD i' 0) (nums.getD i 0) with ⟨e, _⟩ | ⟨_, e⟩ | ⟨e, e'⟩
              · rw [e] at q1; exact absurd q1 a1
              · exact ⟨by omega, fun _ => e⟩
              · rw [e] at q1; exact ⟨by omega, fun z => absurd q1 z⟩
            refine ⟨fun q hq => ?_, fun z q hq => ?_⟩
            · rcases Nat.lt_or_ge i q with h1 | h1
              · rcases Nat.eq_or_lt_of_le hq with rfl | h2
                · exact Int.le_refl _
                · exact Int.le_trans q3.1 (q2 q h1 h2)
              · exact Int.le_trans q3.1 (ih.1 q h1)
            · rcases Nat.lt_or_ge i q with h1 | h1
              · exact Int.lt_of_lt_of_le (q3.2 z) (q2 q h1 hq)
              · exact Int.lt_of_lt_of_le (q3.2 z) (ih.1 q h1)
        have after : ∀ q, r < q → q < col → nums.getD r 0 ≤ nums.getD q 0 ∧ (0 ∈ ans → nums.getD r 0 < nums.getD q 0) := by
          intro q h1 h2
          have hs := hA q h1 h2
          rcases sg_cases (nums.getD q 0) (nums.getD r 0) with ⟨_, e⟩ | ⟨e, _⟩ | ⟨e, e'⟩
          · exact ⟨by omega, fun _ => e⟩
          · rw [e] at hs; exact absurd am hs
          · rw [e] at hs; exact ⟨by omega, fun z => absurd z hs⟩
        have top : nums.getD r 0 ≤ nums.getD g 0 := by
          rcases Nat.lt_or_ge r g with h1 | h1
          · exact (after g h1 hg).1
          · exact (inv r hre).1 g h1
        have up := hmin am _ (hmem r hrc)
        have eG : nums.getD r 0 = G := by omega
        exact due_one hrc hc eG (fun z q h1 h2 => by have := (after q h1 h2).2 z; omega) (fun z q h1 => by have := (inv r hre).2 z q h1; omega) d1 d0
      · have hG0 := hfst a1 am
        rw [take_getD (by omega)] at hG0
        have eq : ∀ x y : Int, sg x y ∈ ans → x = y ∧ 0 ∈ ans := by
          intro x y hs
          rcases sg_cases x y with ⟨e, _⟩ | ⟨e, _⟩ | ⟨e, e'⟩
          · rw [e] at hs; exact absurd hs a1
          · rw [e] at hs; exact absurd hs am
          · rw [e] at hs; exact ⟨e', hs⟩
        have inv : ∀ r, Reach nums ans r → nums.getD r 0 = nums.getD 0 0 ∧ (0 ∉ ans → r = 0) := by
          intro r hr
          induction hr with
          | zero => exact ⟨rfl, fun _ => rfl⟩
          | @step i i' _ hn ih =>
            have q1 := eq _ _ (ok_step.mp hn.2.2.1)
            exact ⟨q1.1.trans ih.1, fun z => absurd q1.2 z⟩
        have i0 := inv r hre
        refine due_one hrc hc (i0.1.trans hG0.symm) (fun z q h1 h2 e => ?_) (fun z q h1 => absurd h1 (by rw [i0.2 z]; omega)) d1 d0
        have hs := hA q h1 h2
        have e' : nums.getD q 0 = nums.getD r 0 := by rw [e, hG0, i0.1]
        rcases sg_cases (nums.getD q 0) (nums.getD r 0) with ⟨_, x⟩ | ⟨_, x⟩ | ⟨x, _⟩
        · omega
        · omega
        · rw [x] at hs; exact hs z
end Mine

namespace Mine
/-- the inner loop's body in the law, as the text has it -/
def lawParts : List Stmt × Scope := match (PySem.Challenge.rw_mr0022_01.prog.main.body)[10]? with
  | some (Stmt.FunctionDef _ _ (_ :: _ :: Stmt.For _ _ (Stmt.For _ _ b _ _ :: _) _ _ :: _) _ _ _ sc _ _ _) => (b, sc)
  | _ => ([], ⟨.module, [], false, false, []⟩)
/-- a list of all that lies above the ground, but the frame -/
theorem all_news {h₀ h : Heap} {L : Addr} {m : Str → Option Value} (F : Fr h₀ L h m) : ∃ al, News h₀ L h al ∧ ∀ b o, b ≠ L → h.get? b = some o → h₀.get? b = some o ∨ (b, o) ∈ al := by
  refine ⟨(List.range h.objs.size).filterMap fun (b : Nat) => if b = L then none else match h₀.get? b with | some _ => none | none => (h.get? b).map fun o => ((b : Addr), o), ?_, ?_⟩
  · intro q hq
    obtain ⟨b, -, hb⟩ := List.mem_filterMap.mp hq
    by_cases hL : b = L
    · rw [if_pos hL] at hb; cases hb
    · rw [if_neg hL] at hb
      cases e : h₀.get? b with
      | some o => rw [e] at hb; cases hb
      | none =>
        rw [e] at hb
        cases e2 : h.get? b with
        | none => simp [e2] at hb
        | some o =>
          simp only [e2, Option.map_some, Option.some.injEq] at hb
          subst hb
          exact ⟨e2, hL, e⟩
  · intro b o hL e
    cases e0 : h₀.get? b with
    | some o' =>
      have := F.keep _ _ e0
      rw [e] at this
      cases this
      exact .inl rfl
    | none =>
      refine .inr (List.mem_filterMap.mpr ⟨b, List.mem_range.mpr (Heap.lt_size e), ?_⟩)
      rw [if_neg hL, e0, e]
      rfl
theorem all_keep {h₀ h h' : Heap} {L : Addr} {m' : Str → Option Value} {al nw : List (Addr × Obj)} (hal : ∀ b o, b ≠ L → h.get? b = some o → h₀.get? b = some o ∨ (b, o) ∈ al) (F' : Fr h₀ L h' m') (N' : News h₀ L h' nw) (sub : ∀ q ∈ al, q ∈ nw) :
    ∀ b o, b ≠ L → h.get? b = some o → h'.get? b = some o := fun b o hL e => (hal b o hL e).elim (F'.keep b o) fun hm => (N' _ (sub _ hm)).1
/-- all but the frame and the two tables -/
def Keep3 (L : Addr) (h h' : Heap) : Prop := ∀ b o, b ≠ L → b ≠ 37 → b ≠ 44 → h.get? b = some o → h'.get? b = some o
theorem Keep3.trans {L : Addr} {a b c : Heap} (x : Keep3 L a b) (y : Keep3 L b c) : Keep3 L a c := fun q o h0 h1 h2 e => y q o h0 h1 h2 (x q o h0 h1 h2 e)
def Far (h₀ : Heap) (L q : Addr) : Prop := q ≠ L ∧ q ≠ 37 ∧ q ≠ 44 ∧ h₀.get? q = none
/-- the two code tables and what they name -/
def Tabs (L : Addr) (h : Heap) : Prop := ∃ ps qs ownT ownP, h.get? 37 = some (tabObj ps) ∧ Has h ownT ∧ NoDict L ownT ∧ HitTab ownT ps ∧ h.get? 44 = some (tabObj qs) ∧ Has h ownP ∧ NoDict L ownP ∧ ProgTab ownP qs
theorem fr_but {P : Addr} {h₀ h h' : Heap} {L : Addr} {m : Str → Option Value} (F : Fr h₀ L h m) (k : Heap.ExtBut P h h') (hL : L ≠ P) (h0 : h₀.get? P = none) : Fr h₀ L h' m :=
  ⟨F.ns.at' fun o e => k L o hL e, fun b o e => k b o (fun q => by rw [q, h0] at e; cases e) (F.keep b o e), F.above⟩
theorem news_cons {h₀ h : Heap} {L D : Addr} {o : Obj} {al : List (Addr × Obj)} (N : News h₀ L h al) (e : h.get? D = some o) (hL : D ≠ L) (z : h₀.get? D = none) : News h₀ L h ((D, o) :: al) := by
  intro q hq
  rcases List.mem_cons.mp hq with rfl | hq
  · exact ⟨e, hL, z⟩
  · exact N q hq
theorem nums_at {h h' : Heap} {a : Addr} {ns : List Int} (A : KTD.Nums h a ns) (k : ∀ o, h.get? a = some o → h'.get? a = some o) : KTD.Nums h' a ns := by
  obtain ⟨avs, ⟨o, ho, r⟩, hai⟩ := A
  exact ⟨avs, ⟨o, k o ho, r⟩, hai⟩
local macro_rules | `(tactic| walk_at "storeName") => `(tactic| (k_here; k_dflt (refine' storeX_H ?F ?N ?H ?O ?_ ?a ?b; (case F => k_asm); (case N => k_asm); (case H => assumption); (case O => assumption); (case a => rfl); (case b => rfl); k_whole; intro h' F' N' H'; (try k_sweep))))
local macro_rules | `(tactic| walk_at "getMethod ref") => `(tactic| (k_here; k_dflt (refine fn_method (Has.get (by assumption) (by assumption)) (Has.get (by assumption) (by assumption)) lk_fn_span ?_)))
local macro_rules | `(tactic| walk_at "callWith ref") => `(tactic| (k_here; k_dflt (refine' callWith_F0 ?k1 ?_; (case k1 => exact fnAt_of (Has.get (by assumption) (by assumption))); k_whole; try dsimp only [List.nil_append, List.cons_append])))
local macro_rules | `(tactic| walk_at "call ref") => `(tactic| (k_here; (with_reducible show wpAny _ _ (call (Value.ref _) (_ :: _)) _ _ _); refine stop_intro ?_))
local macro_rules | `(tactic| walk_at "call ref") => `(tactic| (k_here; (with_reducible show wpAny _ _ (call (Value.ref _) []) _ _ _); (refine' span_at ?S ?H ?X ?B ?F ?T ?N ?hA ?hf ?hk ?hr ?hh ?_; (case S => assumption); (case H => assumption); (case X => k_asm); (case B => k_asm); (case F => k_asm); (case T => k_asm); (case N => k_asm); (case hA => rfl); (case hf => rfl); (case hk => rfl); (case hr => k_room); (case hh => rfl)); intro h' tk' a' t1' t2' F' N' H' kp'; (try k_sweep)))
section
variable {w : World} {A₀ : Around} {base h₀ : Heap} {L fa an rw D : Addr} {cd : Value} {m₀ mg mb : Str → Option Value} {p : Program} {loose : List Str} {mean : ExcName → Option Value} {s : Shared} {Q : Flow → Shared → Prop} {E : Value → Shared → Prop} {nums ans : List Int} {vs : List Value} {i : Nat} {t : Tok} {u1 u2 : Option Value} {body : List Stmt} {sc : Scope}
set_option maxHeartbeats 2000000 in
theorem col_turn :
   lawParts = (body, sc) → (hd.heap_39 w.params).In h₀ → Below A₀ base [] h₀ → Top p loose mean mg mb h₀ →
   Fr h₀ L s.heap (fun y => if y = "col" then some (.int (i : Int) t) else if y = "told" then u1 else if y = "found" then u2 else if y = "answers" then some (.ref an) else if y = "row" then some (.ref rw) else if y = "numbers" then some (.ref D) else m₀ y) →
   h₀.get? 37 = none → h₀.get? 44 = none → CodeHd base 41 37 → CodeHd base 48 44 → @LE.le Nat _ 66 L → Tabs L s.heap →
   RowAt s.heap rw nums → s.heap.get? D = some (W.listOf vs.toArray 0) → Far h₀ L D → IntsAre vs nums → KTD.Nums s.heap an ans → Far h₀ L an → i ≤ nums.length → nums.length ≤ 100 → 0 < nums.length → (∀ a ∈ ans, a = -1 ∨ a = 0 ∨ a = 1) →
   (∀ h' tk v1 v2, Keep3 L s.heap h' → Tabs L h' → Fr h₀ L h' (fun y => if y = "told" then some v1 else if y = "found" then some v2 else if y = "col" then some (.int (i : Int) t) else if y = "told" then u1 else if y = "found" then u2 else if y = "answers" then some (.ref an) else if y = "row" then some (.ref rw) else if y = "numbers" then some (.ref D) else m₀ y) → Q .next { s with heap := h', toks := tk }) →
   wpAny (model Challenge.rw_mr0022_01.row.prog w) (callerA.deeper (envOf "law" sc L fa cd)) (execs body (envOf "law" sc L fa cd)) Q E s := by
  k_fill
  intro hp X B T F z37 z44 C1 C2 h66 HT R hD fD hvi HA fan hi hlen hpos hA hQ
  cases hp
  obtain ⟨ps, qs, ownT, ownP, t1, t2, t3, t4, t5, t6, t7, t8⟩ := HT
  obtain ⟨al, N, hal⟩ := all_news F
  have nL37 : L ≠ 37 := by intro e; rw [e] at h66; exact absurd h66 (by decide)
  have nL44 : L ≠ 44 := by intro e; rw [e] at h66; exact absurd h66 (by decide)
  w_strict k_steps
  unfold StopHere
  refine prog_call X B F T (fun q hq => by rcases List.mem_singleton.mp hq with rfl; exact ⟨t5, Ne.symm nL44, z44⟩) t6 t7 t8 C2 rfl rfl h66 (Nat.le_refl _) fun h1 tk1 f1 qs1 ownP1 e1 p1 p2 p3 p4 p5 p6 => ?_
  have F1 := fr_but F e1 nL44 z44
  have g37 := e1 _ _ (by decide) t1
  have gT : Has h1 ownT := t2.ext e1 (fun q hq => (t3 q hq).1) (by omega)
  have K1 : Keep3 L s.heap h1 := fun b o _ _ h e => e1 b o h e
  have R1 : RowAt h1 rw nums := R.keep fun b o hc e => e1 b o (fun q => by rw [q, t5] at e; cases e; exact hc rfl) e
  have A1 : KTD.Nums h1 an ans := by
    obtain ⟨avs, ⟨o, ho, hc, r⟩, hai⟩ := HA
    exact ⟨avs, ⟨o, e1 _ _ (fun q => by rw [q, t5] at ho; cases ho; cases hc) ho, hc, r⟩, hai⟩
  have D1 : h1.get? D = some (W.listOf vs.toArray 0) := e1 _ _ (fun q => by rw [q, t5] at hD; cases hD) hD
  clear N hal al
  obtain ⟨al, N, hal⟩ := all_news F1
  w_strict k_steps
  unfold StopHere
  refine sr_call X B F1 T (fun q hq => by rcases List.mem_singleton.mp hq with rfl; exact ⟨g37, Ne.symm nL37, z37⟩) gT t3 t4 C1 rfl rfl h66 (Nat.le_refl _) p5 R1 A1 hi hlen hpos fun h2 tk2 v2 ps2 ownT2 e2 q1 q2 q3 q4 sr => ?_
  have F2 := fr_but F1 e2 nL37 z37
  have K2 : Keep3 L s.heap h2 := K1.trans fun b o _ h _ e => e2 b o h e
  have g44 := e2 _ _ (by decide) p1
  have gP : Has h2 ownP1 := p2.ext e2 (fun q hq => (p3 q hq).1) (by omega)
  have A2 : KTD.Nums h2 an ans := by
    obtain ⟨avs, ⟨o, ho, hc, r⟩, hai⟩ := A1
    exact ⟨avs, ⟨o, e2 _ _ (fun q => by rw [q, g37] at ho; cases ho; cases hc) ho, hc, r⟩, hai⟩
  have D2 : h2.get? D = some (W.listOf vs.toArray 0) := e2 _ _ (fun q => by rw [q, g37] at D1; cases D1) D1
  have TB : ∀ h', (∀ b o, b ≠ L → h2.get? b = some o → h'.get? b = some o) → Tabs L h' := fun h' k =>
    ⟨ps2, qs1, ownT2, ownP1, k _ _ (Ne.symm nL37) q1, fun q hq => k _ _ (Nat.ne_of_gt (q3 q hq).1) (q2 q hq), q3, q4, k _ _ (Ne.symm nL44) g44, fun q hq => k _ _ (Nat.ne_of_gt (p3 q hq).1) (gP q hq), p3, p4⟩
  clear N hal al
  obtain ⟨al, N0, hal⟩ := all_news F2
  have N := news_cons N0 D2 fD.1 fD.2.2.2
  clear N0 gT t2 p2 q2 gP
  rcases sr with ⟨rfl, hc0⟩ | ⟨f, r, own, rfl, hlast, Ho, oko, hit⟩
  · have H2 : Has h2 [] := fun q hq => nomatch hq
    have O2 : Off L [] := fun q hq => nomatch hq
    w_strict k_steps
    all_goals (try unfold StopHere)
    rename Fr _ _ _ _ => F3
    rename News _ _ _ _ => N3
    rename IntsAre _ (List.take _ _) => hI3
    have k3 := all_keep hal F3 N3 (fun q hq => .tail _ (.tail _ hq))
    have A3 := nums_at A2 (fun o e => k3 _ o (fan.1) e)
    rw [Int.toNat_natCast] at hI3
    refine due_call X B F3 T rfl rfl ⟨_, ⟨_, (N3 _ (.head _)).1, rfl, _, rfl⟩, hI3⟩ A3 (by rw [List.length_take]; omega) fun h4 tk4 v4 k4 r4 => ?_
    have F4 := F3.keeps k4
    rcases r4 with ⟨-, rfl⟩ | ⟨p4, a4, u4, u5, ne4, -⟩
    · clear N3
      obtain ⟨al4, N4, hal4⟩ := all_news F4
      have H4 : Has h4 [] := fun q hq => nomatch hq
      w_strict k_steps
      all_goals (try unfold StopHere)
      exact hQ _ _ _ _ (K2.trans fun b o hL _ _ e => k4 b o (k3 b o hL e)) (TB _ fun b o hL e => k4 b o (k3 b o hL e)) F4
    · exact absurd (by rw [hc0]; rfl) ne4
  · have O2 : Off L own := off_of oko Ho F1.ns F2.ns
    have hit' := hit
    obtain ⟨_, _, _, _, _, _, mf, md, ⟨_, _, _, _, mg'⟩, msp⟩ := hit'
    w_strict k_steps
    all_goals (try unfold StopHere)
    rename Fr _ _ _ _ => F3
    rename News _ _ _ _ => N3
    rename IntsAre _ (List.take _ _) => hI3
    have k3 := all_keep hal F3 N3 (fun q hq => .tail _ (.tail _ (.tail _ hq)))
    have A3 := nums_at A2 (fun o e => k3 _ o (fan.1) e)
    rw [Int.toNat_natCast] at hI3
    refine due_call X B F3 T rfl rfl ⟨_, ⟨_, (N3 _ (.head _)).1, rfl, _, rfl⟩, hI3⟩ A3 (by rw [List.length_take]; omega) fun h4 tk4 v4 k4 r4 => ?_
    have F4 := F3.keeps k4
    rcases r4 with ⟨e4, -⟩ | ⟨p4, a4, u4, u5, ne4, due4, rfl, z4, o4⟩
    · exfalso
      have hz := congrArg List.length e4
      rw [List.length_take] at hz
      have := hlast.2.1
      simp only [List.length_nil] at hz
      omega
    · have hpr := plain_law hi hA hlast due4
      subst hpr
      have N4 := news_cons (fun q hq => ⟨k4 _ _ (N3 q hq).1, (N3 q hq).2⟩ : News h₀ L h4 _) o4 (fun e => by obtain ⟨oL, _, _, eL, _⟩ := F3.ns; rw [e] at z4; rw [z4] at eL; cases eL) (by cases z : h₀.get? a4 with | none => rfl | some o => rw [F3.keep _ _ z] at z4; cases z4)
      clear N3
      w_strict k_steps
      all_goals (try unfold StopHere)
      exact hQ _ _ _ _ (K2.trans fun b o hL _ _ e => k4 b o (k3 b o hL e)) (TB _ fun b o hL e => k4 b o (k3 b o hL e)) F4
end
end Mine

namespace Mine
/-- code objects -/
def Codes (own : List (Addr × Obj)) : Prop := ∀ q ∈ own, ∃ vs n t, q.2.data = .fields vs ∧ vs[1]? = some (.str n t)
theorem two_codes {L : Addr} {h : Heap} {own : List (Addr × Obj)} {c1 c2 : Addr} {q1 q2 : Str} (H : Has h own) (n : NoDict L own) (r1 : CodeIs own c1 q1) (r2 : CodeIs own c2 q2) : ∃ o2, Has h o2 ∧ NoDict L o2 ∧ Codes o2 ∧ CodeIs o2 c1 q1 ∧ CodeIs o2 c2 q2 := by
  obtain ⟨oc1, vs1, t1, m1, d1, v1⟩ := r1
  obtain ⟨oc2, vs2, t2, m2, d2, v2⟩ := r2
  refine ⟨[(c1, oc1), (c2, oc2)], ?_, ?_, ?_, ⟨oc1, vs1, t1, .head _, d1, v1⟩, ⟨oc2, vs2, t2, .tail _ (.head _), d2, v2⟩⟩
  · intro q hq
    rcases List.mem_cons.mp hq with rfl | hq
    · exact H _ m1
    · rcases List.mem_singleton.mp hq with rfl
      exact H _ m2
  · intro q hq
    rcases List.mem_cons.mp hq with rfl | hq
    · exact n _ m1
    · rcases List.mem_singleton.mp hq with rfl
      exact n _ m2
  · intro q hq
    rcases List.mem_cons.mp hq with rfl | hq
    · exact ⟨vs1, _, t1, d1, v1⟩
    · rcases List.mem_singleton.mp hq with rfl
      exact ⟨vs2, _, t2, d2, v2⟩
def TabsC (L : Addr) (h : Heap) (ps qs : Array Value) (ownT ownP : List (Addr × Obj)) : Prop := h.get? 37 = some (tabObj ps) ∧ Has h ownT ∧ NoDict L ownT ∧ HitTab ownT ps ∧ h.get? 44 = some (tabObj qs) ∧ Has h ownP ∧ NoDict L ownP ∧ ProgTab ownP qs ∧ Codes ownT ∧ Codes ownP
theorem Tabs.codes {L : Addr} {h : Heap} (x : Tabs L h) : ∃ ps qs ownT ownP, TabsC L h ps qs ownT ownP := by
  obtain ⟨ps, qs, ownT, ownP, t1, t2, t3, t4, t5, t6, t7, t8⟩ := x
  obtain ⟨oT, a1, a2, a3, a4⟩ : ∃ oT, Has h oT ∧ NoDict L oT ∧ Codes oT ∧ HitTab oT ps := by
    rcases t4 with rfl | ⟨c1, c2, e, r1, r2⟩
    · exact ⟨[], (fun q hq => nomatch hq), (fun q hq => nomatch hq), (fun q hq => nomatch hq), .inl rfl⟩
    · obtain ⟨o2, b1, b2, b3, b4, b5⟩ := two_codes t2 t3 r1 r2
      exact ⟨o2, b1, b2, b3, .inr ⟨c1, c2, e, b4, b5⟩⟩
  obtain ⟨oP, c1, c2, c3, c4⟩ : ∃ oP, Has h oP ∧ NoDict L oP ∧ Codes oP ∧ ProgTab oP qs := by
    rcases t8 with rfl | ⟨c1, c2, e, r1, r2⟩
    · exact ⟨[], (fun q hq => nomatch hq), (fun q hq => nomatch hq), (fun q hq => nomatch hq), .inl rfl⟩
    · obtain ⟨o2, b1, b2, b3, b4, b5⟩ := two_codes t6 t7 r1 r2
      exact ⟨o2, b1, b2, b3, .inr ⟨c1, c2, e, b4, b5⟩⟩
  exact ⟨ps, qs, oT, oP, t1, a1, a2, a4, t5, c1, c2, c4, a3, c3⟩
theorem TabsC.tabs {L : Addr} {h : Heap} {ps qs : Array Value} {ownT ownP : List (Addr × Obj)} (x : TabsC L h ps qs ownT ownP) : Tabs L h := let ⟨a, b, c, d, e, f, g, i, _⟩ := x; ⟨ps, qs, ownT, ownP, a, b, c, d, e, f, g, i⟩
/-- the law's frame in the inner loop -/
abbrev lawM (an rw D : Addr) (m₀ : Str → Option Value) (c u1 u2 : Option Value) : Str → Option Value :=
  fun y => if y = "col" then c else if y = "told" then u1 else if y = "found" then u2 else if y = "answers" then some (.ref an) else if y = "row" then some (.ref rw) else if y = "numbers" then some (.ref D) else m₀ y
theorem lawM_col (an rw D : Addr) (m₀ : Str → Option Value) (c c' u1 u2 : Option Value) : (fun (y : Str) => if y = "col" then c' else lawM an rw D m₀ c u1 u2 y) = lawM an rw D m₀ c' u1 u2 := by
  funext y
  unfold lawM
  by_cases h : y = "col"
  · simp only [if_pos h]
  · simp only [if_neg h]
theorem lawM_end (an rw D : Addr) (m₀ : Str → Option Value) (c u1 u2 v1 v2 : Option Value) : (fun (y : Str) => if y = "told" then v1 else if y = "found" then v2 else if y = "col" then c else if y = "told" then u1 else if y = "found" then u2 else if y = "answers" then some (.ref an) else if y = "row" then some (.ref rw) else if y = "numbers" then some (.ref D) else m₀ y) = lawM an rw D m₀ c v1 v2 := by
  funext y
  unfold lawM
  by_cases h1 : y = "told"
  · subst h1
    rfl
  · by_cases h2 : y = "found"
    · subst h2
      rfl
    · by_cases h3 : y = "col"
      · subst h3
        rfl
      · simp only [if_neg h1, if_neg h2, if_neg h3]
theorem row_keep3 {h h' : Heap} {L rw : Addr} {m : Str → Option Value} {nums : List Int} {ps qs : Array Value} (R : RowAt h rw nums) (k : Keep3 L h h') (n : h.Ns L m) (e1 : h.get? 37 = some (tabObj ps)) (e2 : h.get? 44 = some (tabObj qs)) : RowAt h' rw nums := by
  obtain ⟨oL, es, ep, eL, dL, -⟩ := n
  have kk : ∀ b o its c, h.get? b = some o → o.data = .seq its c → o.cls ≠ .none → h'.get? b = some o := by
    intro b o its c e d hc
    refine k b o ?_ ?_ ?_ e
    · rintro rfl
      rw [eL] at e
      cases e
      rw [dL] at d
      cases d
    · rintro rfl
      rw [e1] at e
      cases e
      exact hc rfl
    · rintro rfl
      rw [e2] at e
      cases e
      exact hc rfl
  obtain ⟨vs, ⟨o, ho, hc, c, hd⟩, hvl, hvi⟩ := R
  refine ⟨vs, ⟨o, kk _ _ _ _ ho hd (by rw [hc]; exact fun q => nomatch q), hc, c, hd⟩, hvl, fun i n e => ?_⟩
  obtain ⟨a, t1, t2, e1, o, ho, hc, c, hd⟩ := hvi i n e
  exact ⟨a, t1, t2, e1, o, kk _ _ _ _ ho hd (by rw [hc]; exact fun q => nomatch q), hc, c, hd⟩
section
variable {w : World} {A₀ : Around} {base h₀ : Heap} {L fa an rw D r : Addr} {cd : Value} {m₀ mg mb : Str → Option Value} {p : Program} {loose : List Str} {mean : ExcName → Option Value} {s : Shared} {Q : Flow → Shared → Prop} {E : Value → Shared → Prop} {nums ans : List Int} {vs : List Value} {b₀ : Int} {t₀ t₁ t₂ : Tok} {c0 u1 u2 : Option Value} {body : List Stmt} {sc : Scope}
theorem col_loop (hp : lawParts = (body, sc)) (X : (hd.heap_39 w.params).In h₀) (B : Below A₀ base [] h₀) (T : Top p loose mean mg mb h₀)
   (F : Fr h₀ L s.heap (lawM an rw D m₀ c0 u1 u2)) (z37 : h₀.get? 37 = none) (z44 : h₀.get? 44 = none) (C1 : CodeHd base 41 37) (C2 : CodeHd base 48 44) (h66 : @LE.le Nat _ 66 L) (HT : Tabs L s.heap)
   (R : RowAt s.heap rw nums) (hD : s.heap.get? D = some (W.listOf vs.toArray 0)) (fD : Far h₀ L D) (hvi : IntsAre vs nums) (HA : KTD.Nums s.heap an ans) (fan : Far h₀ L an) (hlen : nums.length ≤ 100) (hpos : 0 < nums.length) (hA : ∀ a ∈ ans, a = -1 ∨ a = 0 ∨ a = 1)
   (hr : IsRange s.heap r 0 b₀ 1 t₀ t₁ t₂) (hb : b₀ = (nums.length : Int) + 1)
   (hQ : ∀ h' tk v1 v2 v3, Keep3 L s.heap h' → Tabs L h' → Fr h₀ L h' (lawM an rw D m₀ v1 v2 v3) → Q .next { s with heap := h', toks := tk }) :
   wpAny (model Challenge.rw_mr0022_01.row.prog w) (callerA.deeper (envOf "law" sc L fa cd)) (pyIter (.ref r)) (fun it s₂ => LoopAtV Challenge.rw_mr0022_01.row.prog w (callerA.deeper (envOf "law" sc L fa cd)) h₀ (envOf "law" sc L fa cd) "col" body Q E it s₂) E s := by
  subst hb
  have nL37 : L ≠ 37 := by intro e; rw [e] at h66; exact absurd h66 (by decide)
  have nL44 : L ≠ 44 := by intro e; rw [e] at h66; exact absurd h66 (by decide)
  have zL : ∀ q, @LT.lt Nat _ L q → h₀.get? q = none := fun q h => Heap.get?_none_of_le (Nat.le_trans F.above (Nat.le_of_lt h))
  obtain ⟨al, N0, hal⟩ := all_news F
  have N0' : News h₀ L s.heap (al.filter fun q => decide (q.1 ≠ 37 ∧ q.1 ≠ 44)) := fun q hq => N0 q (List.mem_filter.mp hq).1
  have hk : ∀ b o, b ≠ L → b ≠ 37 → b ≠ 44 → s.heap.get? b = some o → h₀.get? b = some o ∨ (b, o) ∈ al.filter fun q => decide (q.1 ≠ 37 ∧ q.1 ≠ 44) := fun b o h1 h2 h3 e =>
    (hal b o h1 e).elim .inl fun hm => .inr (List.mem_filter.mpr ⟨hm, decide_eq_true ⟨h2, h3⟩⟩)
  have hno : ∀ q ∈ al.filter (fun (q : Addr × Obj) => decide (q.1 ≠ 37 ∧ q.1 ≠ 44)), q.1 ≠ 37 ∧ q.1 ≠ 44 := fun q hq => of_decide_eq_true (List.mem_filter.mp hq).2
  generalize al.filter (fun (q : Addr × Obj) => decide (q.1 ≠ 37 ∧ q.1 ≠ 44)) = rest at N0' hk hno
  clear N0 hal al
  have hsm : Builtin.Range.small 0 ((nums.length : Int) + 1) 1 = true := small_one (by omega) (by omega) (by omega) (by omega)
  have hn : Builtin.Range.rangeSize 0 ((nums.length : Int) + 1) 1 = ((nums.length + 1 : Nat) : Int) := by rw [rangeSize_nat]; omega
  refine wpAny_pyIter_range hr hsm ?_
  have W : Walks Challenge.rw_mr0022_01.row.prog w (callerA.deeper (envOf "law" sc L fa cd)) s.heap.objs.size [s.heap.objs.size] [s.heap.objs.size] (nums.length + 1) (fun i v => i < nums.length + 1 ∧ ∃ t, v = .int (0 + i * 1) t)
      (fun i h => IsRangeIter h s.heap.objs.size (0 + (i : Nat) * 1) (((nums.length + 1 : Nat) : Int) - (i : Nat)) 1) := (Walks.range rfl _ 0 1 (nums.length + 1)).bound
  obtain ⟨ps, qs, ownT, ownP, x1, x2, x3, x4, x5, x6, x7, x8, x9, x10⟩ := HT.codes
  have lg : ∀ {h : Heap} {ps qs : Array Value} {ownT ownP : List (Addr × Obj)}, TabsC L h ps qs ownT ownP → News h₀ L h rest → News h₀ L h ((37, tabObj ps) :: (44, tabObj qs) :: (ownT ++ (ownP ++ rest))) := by
    rintro h ps qs ownT ownP ⟨y1, y2, y3, y4, y5, y6, y7, y8, y9, y10⟩ N
    refine news_cons (news_cons (fun q hq => ?_) y5 (Ne.symm nL44) z44) y1 (Ne.symm nL37) z37
    rcases List.mem_append.mp hq with hq | hq
    · exact ⟨y2 q hq, Nat.ne_of_gt (y3 q hq).1, zL _ (y3 q hq).1⟩
    · rcases List.mem_append.mp hq with hq | hq
      · exact ⟨y6 q hq, Nat.ne_of_gt (y7 q hq).1, zL _ (y7 q hq).1⟩
      · exact N q hq
  have hLs : @LT.lt Nat _ L s.heap.objs.size := F.ns.lt
  refine ⟨_, _, _, nums.length + 1, _, _, lawM an rw D m₀ c0 u1 u2, (37, tabObj ps) :: (44, tabObj qs) :: (ownT ++ (ownP ++ rest)),
    fun i m nw => ∃ ps qs ownT ownP c u1 u2, nw = (37, tabObj ps) :: (44, tabObj qs) :: (ownT ++ (ownP ++ rest)) ∧ NoDict L ownT ∧ HitTab ownT ps ∧ NoDict L ownP ∧ ProgTab ownP qs ∧ Codes ownT ∧ Codes ownP ∧ m = lawM an rw D m₀ c u1 u2, rfl, W, ?_, ?_, ?_, ?_, F.push _, ?_, ⟨ps, qs, ownT, ownP, c0, u1, u2, rfl, x3, x4, x7, x8, x9, x10, rfl⟩, ?_, ?_⟩
  · exact fun hm => absurd F.ns.lt ((List.mem_singleton.mp hm) ▸ Nat.lt_irrefl _)
  · intro b hb
    rw [List.mem_singleton.mp hb]
    exact next_is_new F
  · intro q hq hm
    have := lg ⟨x1, x2, x3, x4, x5, x6, x7, x8, x9, x10⟩ N0' q hq
    exact absurd (Heap.lt_size this.1) ((List.mem_singleton.mp hm) ▸ Nat.lt_irrefl _)
  · show IsRangeIter _ _ _ _ _
    rw [hn]
    simpa using Heap.get?_push_size _ rfl
  · have NN := lg ⟨x1, x2, x3, x4, x5, x6, x7, x8, x9, x10⟩ N0'
    exact fun q hq => ⟨Heap.get?_push_of_some _ (NN q hq).1, (NN q hq).2⟩
  · rintro i v m₁ nw s₁ own ⟨h, tk, rfl⟩ hi ⟨_, t, rfl⟩ ⟨ps1, qs1, ownT1, ownP1, c1, v1, v2, rfl, y1, y2, y3, y4, y5, y6, rfl⟩ hoff hown hlive hall hst F₁ N₁
    have e1 : (0 : Int) + (i : Int) * 1 = (i : Int) := by omega
    rw [e1, lawM_col] at F₁
    have NT : ∀ q ∈ (37, tabObj ps1) :: (44, tabObj qs1) :: (ownT1 ++ (ownP1 ++ rest)), h.get? q.1 = some q.2 := fun q hq => (N₁ q (List.mem_append_right _ hq)).1
    have K : Keep3 L s.heap h := fun b o h1 h2 h3 e => (hk b o h1 h2 h3 e).elim (F₁.keep b o) fun hm => NT (b, o) (.tail _ (.tail _ (List.mem_append_right _ (List.mem_append_right _ hm))))
    have TC : TabsC L h ps1 qs1 ownT1 ownP1 := ⟨NT _ (.head _), fun q hq => NT q (.tail _ (.tail _ (List.mem_append_left _ hq))), y1, y2, NT _ (.tail _ (.head _)), fun q hq => NT q (.tail _ (.tail _ (List.mem_append_right _ (List.mem_append_left _ hq)))), y3, y4, y5, y6⟩
    have far : ∀ q, @LT.lt Nat _ L q → q ≠ L ∧ q ≠ 37 ∧ q ≠ 44 := fun q h => ⟨Nat.ne_of_gt h, by have := Nat.lt_of_le_of_lt h66 h; exact fun e => by rw [e] at this; exact absurd this (by decide), by have := Nat.lt_of_le_of_lt h66 h; exact fun e => by rw [e] at this; exact absurd this (by decide)⟩
    refine wpAny_mono (col_turn (Q := fun f s₂ => f = .next ∧ ∃ h' tk' c u1 u2, s₂ = { s with heap := h', toks := tk' } ∧ Keep3 L h h' ∧ Tabs L h' ∧ Fr h₀ L h' (lawM an rw D m₀ c u1 u2)) hp X B T F₁ z37 z44 C1 C2 h66 TC.tabs (row_keep3 R K F.ns x1 x5) (K _ _ fD.1 fD.2.1 fD.2.2.1 hD) fD hvi (nums_at HA fun o e => K _ o fan.1 fan.2.1 fan.2.2.1 e) fan (by omega) hlen hpos hA
      (fun h' tk' w1 w2 K' T' F' => ⟨rfl, h', tk', _, _, _, rfl, K', T', lawM_end an rw D m₀ _ v1 v2 (some w1) (some w2) ▸ F'⟩)) (fun f s₂ hf => ?_) fun _ _ e => e
    obtain ⟨rfl, h', tk', c', u1', u2', rfl, K', T', F'⟩ := hf
    obtain ⟨ps2, qs2, ownT2, ownP2, TC2⟩ := T'.codes
    have Nr : News h₀ L h' rest := fun q hq => ⟨K' _ _ (N0' q hq).2.1 (hno q hq).1 (hno q hq).2 (NT q (.tail _ (.tail _ (List.mem_append_right _ (List.mem_append_right _ hq))))), (N0' q hq).2⟩
    have N2 := lg TC2 Nr
    have farI := far s.heap.objs.size hLs
    have hI' := K' _ _ farI.1 farI.2.1 farI.2.2 hst
    have cI : ∀ own, Has h' own → Codes own → ∀ q ∈ own, q.1 ∉ [s.heap.objs.size] := by
      intro own H C q hq hm
      obtain ⟨vs, n, t, d, e⟩ := C q hq
      have := H q hq
      rw [List.mem_singleton.mp hm, hI'] at this
      have := Option.some.inj this
      rw [← this] at d
      cases d
      cases e
    refine .next ⟨rfl, h', tk', _, _, rfl, F', ?_, ?_, ps2, qs2, ownT2, ownP2, c', u1', u2', rfl, TC2.2.2.1, TC2.2.2.2.1, TC2.2.2.2.2.2.2.1, TC2.2.2.2.2.2.2.2.1, TC2.2.2.2.2.2.2.2.2.1, TC2.2.2.2.2.2.2.2.2.2, rfl⟩
    · intro q hq
      rcases List.mem_append.mp hq with hq | hq
      · have hq' := N₁ q (List.mem_append_left _ hq)
        have hm := List.mem_singleton.mp (hown q hq)
        exact ⟨K' _ _ hq'.2.1 (by rw [hm]; exact farI.2.1) (by rw [hm]; exact farI.2.2) hq'.1, hq'.2⟩
      · exact N2 q hq
    · intro q hq
      rcases List.mem_cons.mp hq with rfl | hq
      · exact fun hm => farI.2.1 (List.mem_singleton.mp hm).symm
      · rcases List.mem_cons.mp hq with rfl | hq
        · exact fun hm => farI.2.2 (List.mem_singleton.mp hm).symm
        · rcases List.mem_append.mp hq with hq | hq
          · exact cI _ TC2.2.1 TC2.2.2.2.2.2.2.2.2.1 q hq
          · rcases List.mem_append.mp hq with hq | hq
            · exact cI _ TC2.2.2.2.2.2.1 TC2.2.2.2.2.2.2.2.2.2 q hq
            · exact fun hm => absurd (Heap.lt_size (N0' q hq).1) ((List.mem_singleton.mp hm) ▸ Nat.lt_irrefl _)
  · rintro h' tk m' nw' F' N' _ ⟨ps1, qs1, ownT1, ownP1, c1, v1, v2, rfl, y1, y2, y3, y4, y5, y6, rfl⟩
    have NT : ∀ q ∈ (37, tabObj ps1) :: (44, tabObj qs1) :: (ownT1 ++ (ownP1 ++ rest)), h'.get? q.1 = some q.2 := fun q hq => (N' q hq).1
    have K : Keep3 L s.heap h' := fun b o h1 h2 h3 e => (hk b o h1 h2 h3 e).elim (F'.keep b o) fun hm => NT (b, o) (.tail _ (.tail _ (List.mem_append_right _ (List.mem_append_right _ hm))))
    have TC : TabsC L h' ps1 qs1 ownT1 ownP1 := ⟨NT _ (.head _), fun q hq => NT q (.tail _ (.tail _ (List.mem_append_left _ hq))), y1, y2, NT _ (.tail _ (.head _)), fun q hq => NT q (.tail _ (.tail _ (List.mem_append_right _ (List.mem_append_left _ hq)))), y3, y4, y5, y6⟩
    exact hQ h' tk c1 v1 v2 K TC.tabs F'
end
end Mine

namespace Mine
/-- the outer loop's body in the law, as the text has it -/
def lawOuter : List Stmt × Scope := match (PySem.Challenge.rw_mr0022_01.prog.main.body)[10]? with
  | some (Stmt.FunctionDef _ _ (_ :: _ :: Stmt.For _ _ b _ _ :: _) _ _ _ sc _ _ _) => (b, sc)
  | _ => ([], ⟨.module, [], false, false, []⟩)
/-- what a turn of the outer loop leaves -/
def AnsOn (h₀ : Heap) (L rw D : Addr) (s : Shared) (h : Heap) (f : Flow) (s₂ : Shared) : Prop :=
  f = .next ∧ ∃ h' tk' m', s₂ = { s with heap := h', toks := tk' } ∧ Keep3 L h h' ∧ Tabs L h' ∧ Fr h₀ L h' m' ∧ m' "row" = some (.ref rw) ∧ m' "numbers" = some (.ref D)
theorem fr_law {h₀ h : Heap} {L an rw D : Addr} {M : Str → Option Value} (F : Fr h₀ L h M) (h1 : M "answers" = some (.ref an)) (h2 : M "row" = some (.ref rw)) (h3 : M "numbers" = some (.ref D)) : Fr h₀ L h (lawM an rw D M (M "col") (M "told") (M "found")) := by
  have e : lawM an rw D M (M "col") (M "told") (M "found") = M := by
    funext y
    unfold lawM
    by_cases e1 : y = "col"
    · rw [if_pos e1, e1]
    rw [if_neg e1]
    by_cases e2 : y = "told"
    · rw [if_pos e2, e2]
    rw [if_neg e2]
    by_cases e3 : y = "found"
    · rw [if_pos e3, e3]
    rw [if_neg e3]
    by_cases e4 : y = "answers"
    · rw [if_pos e4, e4, h1]
    rw [if_neg e4]
    by_cases e5 : y = "row"
    · rw [if_pos e5, e5, h2]
    rw [if_neg e5]
    by_cases e6 : y = "numbers"
    · rw [if_pos e6, e6, h3]
    rw [if_neg e6]
  rw [e]
  exact F
theorem row_at2 {h : Heap} {rw' : Addr} {ys : List Value} {ns : List Int} {nr : List (Addr × Obj)} (R : RowIn ys ns nr) (e : h.get? rw' = some (LCg.lst ys)) (N : ∀ q ∈ nr, h.get? q.1 = some q.2) : RowAt h rw' ns :=
  ⟨ys, ⟨_, e, rfl, _, rfl⟩, R.1, fun i n e => by
    obtain ⟨a, t1, t2, e1, hm⟩ := R.2 i n e
    exact ⟨a, t1, t2, e1, _, N _ hm, rfl, _, rfl⟩⟩
/-- an object of the ledger that is no table -/
theorem far_of {h₀ h : Heap} {L a : Addr} {o : Obj} {ps qs : Array Value} (n : h.get? a = some o ∧ a ≠ L ∧ h₀.get? a = none) (hc : o.cls ≠ .none) (e1 : h.get? 37 = some (tabObj ps)) (e2 : h.get? 44 = some (tabObj qs)) : Far h₀ L a := by
  refine ⟨n.2.1, ?_, ?_, n.2.2⟩
  · rintro rfl
    rw [e1] at n
    cases n.1
    exact hc rfl
  · rintro rfl
    rw [e2] at n
    cases n.1
    exact hc rfl
theorem for_F {prog : Program} {w : World} {A : Around} {env : Env} {s : Shared} {h₀ : Heap} {L : Addr} {m : Str → Option Value} {E : Value → Shared → Prop} {Q : Flow → Shared → Prop} {x : Str} {px pos : Pos} {iter : Expr} {body : List Stmt} (_ : Fr h₀ L s.heap m) (hx : env.kindOf x = some .local)
    (hp : (env.scope.kind == .class || (env.scope.kind == .module && env.locals != env.globals)) = false)
    (hs : ∀ x, foldedSetIterable iter env x = pure x) (hE : PassesOwn (model prog w) A env E)
    (h : wpAny (model prog w) A (eval iter env) (fun xv s₁ => wpAny (model prog w) A (pyIter xv) (fun it s₂ => LoopAtV prog w A h₀ env x body Q E it s₂) E s₁) E s) :
    wpAny (model prog w) A (exec (.For (.Name x px) iter body [] pos) env) Q E s := For_invV h₀ hx hp h hs hE
theorem ans_items {h₀ h : Heap} {L T₀ a0 a1 a2 a3 a4 a5 a6 a7 : Addr} {t1 t2 t3 t4 t5 t6 t7 t8 t9 t10 t11 t12 : Tok} {rest : List (Addr × Obj)} {x : Obj} {ps qs : Array Value} (e37 : h.get? 37 = some (tabObj ps)) (e44 : h.get? 44 = some (tabObj qs))
    (N : News h₀ L h ((T₀, x) :: (a7, W.listOf #[.int (-1) t10, .int 0 t11, .int 1 t12] 0) :: (a6, W.listOf #[.int (-1) t8, .int 1 t9] 0) :: (a5, W.listOf #[.int (-1) t6, .int 0 t7] 0) :: (a4, W.listOf #[.int 0 t4, .int 1 t5] 0) :: (a3, W.listOf #[.int 0 t3] 0) :: (a2, W.listOf #[.int (-1) t2] 0) :: (a1, W.listOf #[.int 1 t1] 0) :: (a0, W.listOf #[] 0) :: rest)) :
    ∀ (i : Nat) v, (#[.ref a0, .ref a1, .ref a2, .ref a3, .ref a4, .ref a5, .ref a6, .ref a7] : Array Value)[i]? = some v → ∃ an ans, v = .ref an ∧ Far h₀ L an ∧ KTD.Nums h an ans ∧ ∀ a ∈ ans, a = -1 ∨ a = 0 ∨ a = 1 := by
  have nc : ∀ vs, (W.listOf vs 0).cls ≠ .none := fun vs q => nomatch q
  intro i v e
  match i, e with
  | 0, e =>
    cases e
    have n := N _ (.tail _ (.tail _ (.tail _ (.tail _ (.tail _ (.tail _ (.tail _ (.tail _ (.head _)))))))))
    exact ⟨a0, [], rfl, far_of n (nc _) e37 e44, ⟨[], ⟨_, n.1, rfl, _, rfl⟩, .nil⟩, by decide⟩
  | 1, e =>
    cases e
    have n := N _ (.tail _ (.tail _ (.tail _ (.tail _ (.tail _ (.tail _ (.tail _ (.head _))))))))
    exact ⟨a1, [1], rfl, far_of n (nc _) e37 e44, ⟨[.int 1 t1], ⟨_, n.1, rfl, _, rfl⟩, .cons _ _ .nil⟩, by decide⟩
  | 2, e =>
    cases e
    have n := N _ (.tail _ (.tail _ (.tail _ (.tail _ (.tail _ (.tail _ (.head _)))))))
    exact ⟨a2, [-1], rfl, far_of n (nc _) e37 e44, ⟨[.int (-1) t2], ⟨_, n.1, rfl, _, rfl⟩, .cons _ _ .nil⟩, by decide⟩
  | 3, e =>
    cases e
    have n := N _ (.tail _ (.tail _ (.tail _ (.tail _ (.tail _ (.head _))))))
    exact ⟨a3, [0], rfl, far_of n (nc _) e37 e44, ⟨[.int 0 t3], ⟨_, n.1, rfl, _, rfl⟩, .cons _ _ .nil⟩, by decide⟩
  | 4, e =>
    cases e
    have n := N _ (.tail _ (.tail _ (.tail _ (.tail _ (.head _)))))
    exact ⟨a4, [0, 1], rfl, far_of n (nc _) e37 e44, ⟨[.int 0 t4, .int 1 t5], ⟨_, n.1, rfl, _, rfl⟩, .cons _ _ (.cons _ _ .nil)⟩, by decide⟩
  | 5, e =>
    cases e
    have n := N _ (.tail _ (.tail _ (.tail _ (.head _))))
    exact ⟨a5, [-1, 0], rfl, far_of n (nc _) e37 e44, ⟨[.int (-1) t6, .int 0 t7], ⟨_, n.1, rfl, _, rfl⟩, .cons _ _ (.cons _ _ .nil)⟩, by decide⟩
  | 6, e =>
    cases e
    have n := N _ (.tail _ (.tail _ (.head _)))
    exact ⟨a6, [-1, 1], rfl, far_of n (nc _) e37 e44, ⟨[.int (-1) t8, .int 1 t9], ⟨_, n.1, rfl, _, rfl⟩, .cons _ _ (.cons _ _ .nil)⟩, by decide⟩
  | 7, e =>
    cases e
    have n := N _ (.tail _ (.head _))
    exact ⟨a7, [-1, 0, 1], rfl, far_of n (nc _) e37 e44, ⟨[.int (-1) t10, .int 0 t11, .int 1 t12], ⟨_, n.1, rfl, _, rfl⟩, .cons _ _ (.cons _ _ (.cons _ _ .nil))⟩, by decide⟩
  | i + 8, e => simp at e
theorem len_at {prog : Program} {w : World} {A : Around} {E : Value → Shared → Prop} {s : Shared} {l : Addr} {ys : List Value} {n : Nat} {Q : Value → Shared → Prop}
    (hl : s.heap.get? l = some (LCg.lst ys)) (hn : ys.length = n) (hb : n ≤ 100) (h : Q (.int (n : Int) (s.toks + 1)) { s with toks := s.toks + 1 + 1 }) :
    wpAny (model prog w) A (call (.builtin "len") [.ref l]) Q E s :=
  len_list ⟨_, hl, rfl, _, rfl⟩ (by rw [List.size_toArray, hn]; omega) (by rw [List.size_toArray, hn]; exact h)
local macro_rules | `(tactic| walk_at "call builtin:len") => `(tactic| (k_here; (with_reducible show wpAny _ _ (call (Value.builtin "len") [Value.ref _]) _ _ _); k_dflt (refine len_at (by assumption) (by assumption) (by assumption) ?_)))
local macro_rules | `(tactic| walk_at "pyIter ref") => `(tactic| ((rename IsRange _ _ _ _ _ _ _ _ => R1); refine stop_intro ?_))
section
variable {w : World} {A₀ : Around} {base h₀ : Heap} {L fa an rw D : Addr} {cd : Value} {m₀ mg mb : Str → Option Value} {p : Program} {loose : List Str} {mean : ExcName → Option Value} {s : Shared} {Q : Flow → Shared → Prop} {E : Value → Shared → Prop} {nums ans : List Int} {vs ys : List Value} {c u1 u2 : Option Value} {body : List Stmt} {sc : Scope}
set_option maxHeartbeats 2000000 in
theorem ans_turn :
   lawOuter = (body, sc) → (hd.heap_39 w.params).In h₀ → Below A₀ base [] h₀ → Top p loose mean mg mb h₀ →
   Fr h₀ L s.heap (fun y => if y = "col" then c else if y = "told" then u1 else if y = "found" then u2 else if y = "answers" then some (.ref an) else if y = "row" then some (.ref rw) else if y = "numbers" then some (.ref D) else m₀ y) →
   h₀.get? 37 = none → h₀.get? 44 = none → CodeHd base 41 37 → CodeHd base 48 44 → @LE.le Nat _ 66 L → Tabs L s.heap →
   RowAt s.heap rw nums → s.heap.get? rw = some (LCg.lst ys) → ys.length = nums.length → s.heap.get? D = some (W.listOf vs.toArray 0) → Far h₀ L D → IntsAre vs nums → KTD.Nums s.heap an ans → Far h₀ L an → Far h₀ L rw → nums.length ≤ 100 → 0 < nums.length → (∀ a ∈ ans, a = -1 ∨ a = 0 ∨ a = 1) →
   PassesOwn (model Challenge.rw_mr0022_01.row.prog w) (callerA.deeper (envOf "law" sc L fa cd)) (envOf "law" sc L fa cd) E →
   wpAny (model Challenge.rw_mr0022_01.row.prog w) (callerA.deeper (envOf "law" sc L fa cd)) (execs body (envOf "law" sc L fa cd)) (AnsOn h₀ L rw D s s.heap) E s := by
  k_fill
  intro hp X B T F z37 z44 C1 C2 h66 HT R hrw hyl hD lD hvi HA lan lrw hlen hpos hA hE
  cases hp
  have zL : ∀ q, @LT.lt Nat _ L q → h₀.get? q = none := fun q h => Heap.get?_none_of_le (Nat.le_trans F.above (Nat.le_of_lt h))
  obtain ⟨al, N0, hal⟩ := all_news F
  have N := news_cons N0 hrw lrw.1 lrw.2.2.2
  have hv2 : StopHere (IntsAre vs nums) := hvi
  clear N0 hvi
  w_strict k_steps
  unfold StopHere
  have hvi : IntsAre vs nums := hv2
  rename Fr _ _ _ _ => F2
  rename ∀ b o, _ → _ => k2
  rename IsRange _ _ _ _ _ _ _ _ => R2
  replace k2 : ∀ b o, s.heap.get? b = some o → Heap.get? _ b = some o := k2
  refine col_loop (b₀ := (nums.length : Int) + 1) (by rfl) X B T F2 z37 z44 C1 C2 h66 ?tabs (R.keep fun b o _ e => k2 b o e) (k2 _ _ hD) lD hvi (nums_at HA fun o e => k2 _ o e) lan hlen hpos hA R2 rfl ?_
  case tabs =>
    obtain ⟨ps, qs, ownT, ownP, t1, t2, t3, t4, t5, t6, t7, t8⟩ := HT
    exact ⟨ps, qs, ownT, ownP, k2 _ _ t1, fun q hq => k2 _ _ (t2 q hq), t3, t4, k2 _ _ t5, fun q hq => k2 _ _ (t6 q hq), t7, t8⟩
  intro h' tk v1 v2 v3 K' T' F'
  w_strict k_steps
  exact ⟨rfl, _, _, _, rfl, fun b o h1 h2 h3 e => K' b o h1 h2 h3 (k2 b o e), T', F', rfl, rfl⟩
end
section
variable {w : World} {A₀ : Around} {base h₀ : Heap} {L fa T₀ rw D : Addr} {cd : Value} {m₀ mg mb : Str → Option Value} {p : Program} {loose : List Str} {mean : ExcName → Option Value} {s : Shared} {Q : Flow → Shared → Prop} {E : Value → Shared → Prop} {nums : List Int} {vs ys : List Value} {items : Array Value} {body : List Stmt} {sc : Scope}
theorem ans_loop (hp : lawOuter = (body, sc)) (X : (hd.heap_39 w.params).In h₀) (B : Below A₀ base [] h₀) (T : Top p loose mean mg mb h₀)
   (F : Fr h₀ L s.heap m₀) (hm1 : m₀ "row" = some (.ref rw)) (hm2 : m₀ "numbers" = some (.ref D)) (z37 : h₀.get? 37 = none) (z44 : h₀.get? 44 = none) (C1 : CodeHd base 41 37) (C2 : CodeHd base 48 44) (h66 : @LE.le Nat _ 66 L) (HT : Tabs L s.heap)
   (R : RowAt s.heap rw nums) (hrw : s.heap.get? rw = some (LCg.lst ys)) (hyl : ys.length = nums.length) (hD : s.heap.get? D = some (W.listOf vs.toArray 0)) (lD : Far h₀ L D) (hvi : IntsAre vs nums) (lrw : Far h₀ L rw) (hlen : nums.length ≤ 100) (hpos : 0 < nums.length)
   (hT₀ : s.heap.IsTuple T₀ items) (lT : Far h₀ L T₀) (hit : ∀ (i : Nat) v, items[i]? = some v → ∃ an ans, v = .ref an ∧ Far h₀ L an ∧ KTD.Nums s.heap an ans ∧ ∀ a ∈ ans, a = -1 ∨ a = 0 ∨ a = 1)
   (hE : PassesOwn (model Challenge.rw_mr0022_01.row.prog w) (callerA.deeper (envOf "law" sc L fa cd)) (envOf "law" sc L fa cd) E)
   (hQ : ∀ h' tk m', Keep3 L s.heap h' → Tabs L h' → Fr h₀ L h' m' → Q .next { s with heap := h', toks := tk }) :
   wpAny (model Challenge.rw_mr0022_01.row.prog w) (callerA.deeper (envOf "law" sc L fa cd)) (pyIter (.ref T₀)) (fun it s₂ => LoopAtV Challenge.rw_mr0022_01.row.prog w (callerA.deeper (envOf "law" sc L fa cd)) h₀ (envOf "law" sc L fa cd) "answers" body Q E it s₂) E s := by
  have nL37 : L ≠ 37 := by intro e; rw [e] at h66; exact absurd h66 (by decide)
  have nL44 : L ≠ 44 := by intro e; rw [e] at h66; exact absurd h66 (by decide)
  have zL : ∀ q, @LT.lt Nat _ L q → h₀.get? q = none := fun q h => Heap.get?_none_of_le (Nat.le_trans F.above (Nat.le_of_lt h))
  have far : ∀ q, @LT.lt Nat _ L q → q ≠ L ∧ q ≠ 37 ∧ q ≠ 44 := fun q h => ⟨Nat.ne_of_gt h, by have := Nat.lt_of_le_of_lt h66 h; exact fun e => by rw [e] at this; exact absurd this (by decide), by have := Nat.lt_of_le_of_lt h66 h; exact fun e => by rw [e] at this; exact absurd this (by decide)⟩
  obtain ⟨al, N0, hal⟩ := all_news F
  have N0' : News h₀ L s.heap (al.filter fun q => decide (q.1 ≠ 37 ∧ q.1 ≠ 44)) := fun q hq => N0 q (List.mem_filter.mp hq).1
  have hk : ∀ b o, b ≠ L → b ≠ 37 → b ≠ 44 → s.heap.get? b = some o → h₀.get? b = some o ∨ (b, o) ∈ al.filter fun q => decide (q.1 ≠ 37 ∧ q.1 ≠ 44) := fun b o h1 h2 h3 e =>
    (hal b o h1 e).elim .inl fun hm => .inr (List.mem_filter.mpr ⟨hm, decide_eq_true ⟨h2, h3⟩⟩)
  have hno : ∀ q ∈ al.filter (fun (q : Addr × Obj) => decide (q.1 ≠ 37 ∧ q.1 ≠ 44)), q.1 ≠ 37 ∧ q.1 ≠ 44 := fun q hq => of_decide_eq_true (List.mem_filter.mp hq).2
  generalize al.filter (fun (q : Addr × Obj) => decide (q.1 ≠ 37 ∧ q.1 ≠ 44)) = rest at N0' hk hno
  clear N0 hal al
  refine wpAny_pyIter_tuple hT₀ ?_
  have hTn : T₀ ≠ s.heap.objs.size := by obtain ⟨o, ho, _⟩ := hT₀; exact Nat.ne_of_lt (Heap.lt_size ho)
  have W := Walks.tuple (prog := Challenge.rw_mr0022_01.row.prog) (w := w) (A := callerA.deeper (envOf "law" sc L fa cd)) rfl s.heap.objs.size T₀ hTn items
  obtain ⟨ps, qs, ownT, ownP, x1, x2, x3, x4, x5, x6, x7, x8, x9, x10⟩ := HT.codes
  have lg : ∀ {h : Heap} {ps qs : Array Value} {ownT ownP : List (Addr × Obj)}, TabsC L h ps qs ownT ownP → News h₀ L h rest → News h₀ L h ((37, tabObj ps) :: (44, tabObj qs) :: (ownT ++ (ownP ++ rest))) := by
    rintro h ps qs ownT ownP ⟨y1, y2, y3, y4, y5, y6, y7, y8, y9, y10⟩ N
    refine news_cons (news_cons (fun q hq => ?_) y5 (Ne.symm nL44) z44) y1 (Ne.symm nL37) z37
    rcases List.mem_append.mp hq with hq | hq
    · exact ⟨y2 q hq, Nat.ne_of_gt (y3 q hq).1, zL _ (y3 q hq).1⟩
    · rcases List.mem_append.mp hq with hq | hq
      · exact ⟨y6 q hq, Nat.ne_of_gt (y7 q hq).1, zL _ (y7 q hq).1⟩
      · exact N q hq
  have hLs : @LT.lt Nat _ L s.heap.objs.size := F.ns.lt
  refine ⟨_, _, _, items.size, _, _, m₀, (37, tabObj ps) :: (44, tabObj qs) :: (ownT ++ (ownP ++ rest)),
    fun i m nw => ∃ ps qs ownT ownP, nw = (37, tabObj ps) :: (44, tabObj qs) :: (ownT ++ (ownP ++ rest)) ∧ NoDict L ownT ∧ HitTab ownT ps ∧ NoDict L ownP ∧ ProgTab ownP qs ∧ Codes ownT ∧ Codes ownP ∧ m "row" = some (.ref rw) ∧ m "numbers" = some (.ref D), rfl, W, ?_, ?_, ?_, ?_, F.push _, ?_, ⟨ps, qs, ownT, ownP, rfl, x3, x4, x7, x8, x9, x10, hm1, hm2⟩, ?_, ?_⟩
  · intro hm
    rcases List.mem_cons.mp hm with e | hm
    · exact absurd F.ns.lt (e ▸ Nat.lt_irrefl _)
    · have e := List.mem_singleton.mp hm
      exact lT.1 e.symm
  · intro b hb
    rw [List.mem_singleton.mp hb]
    exact next_is_new F
  · intro q hq hm
    have := lg ⟨x1, x2, x3, x4, x5, x6, x7, x8, x9, x10⟩ N0' q hq
    exact absurd (Heap.lt_size this.1) ((List.mem_singleton.mp hm) ▸ Nat.lt_irrefl _)
  · exact ⟨⟨_, Heap.get?_push_size _ rfl, rfl, rfl⟩, hT₀.push _⟩
  · have NN := lg ⟨x1, x2, x3, x4, x5, x6, x7, x8, x9, x10⟩ N0'
    exact fun q hq => ⟨Heap.get?_push_of_some _ (NN q hq).1, (NN q hq).2⟩
  · rintro i v m₁ nw s₁ own ⟨h, tk, rfl⟩ hi hv ⟨ps1, qs1, ownT1, ownP1, rfl, y1, y2, y3, y4, y5, y6, y7, y8⟩ hoff hown hlive hall hst F₁ N₁
    obtain ⟨an, ans, rfl, lan, HA, hA⟩ := hit i v hv
    have NT : ∀ q ∈ (37, tabObj ps1) :: (44, tabObj qs1) :: (ownT1 ++ (ownP1 ++ rest)), h.get? q.1 = some q.2 := fun q hq => (N₁ q (List.mem_append_right _ hq)).1
    have K : Keep3 L s.heap h := fun b o h1 h2 h3 e => (hk b o h1 h2 h3 e).elim (F₁.keep b o) fun hm => NT (b, o) (.tail _ (.tail _ (List.mem_append_right _ (List.mem_append_right _ hm))))
    have TC : TabsC L h ps1 qs1 ownT1 ownP1 := ⟨NT _ (.head _), fun q hq => NT q (.tail _ (.tail _ (List.mem_append_left _ hq))), y1, y2, NT _ (.tail _ (.head _)), fun q hq => NT q (.tail _ (.tail _ (List.mem_append_right _ (List.mem_append_left _ hq)))), y3, y4, y5, y6⟩
    have F₂ := fr_law (an := an) (rw := rw) (D := D) F₁ (by rfl) (by exact y7) (by exact y8)
    have up : ∀ q, Far h₀ L q → ∀ o, s.heap.get? q = some o → h.get? q = some o := fun q hq o e => K _ _ hq.1 hq.2.1 hq.2.2.1 e
    refine wpAny_mono (ans_turn (s := { s with heap := h, toks := tk }) (fa := fa) (cd := cd) (E := E) (ys := ys) hp X B T F₂ z37 z44 C1 C2 h66 TC.tabs (row_keep3 R K F.ns x1 x5) (up _ lrw _ hrw) hyl (up _ lD _ hD) lD hvi (nums_at HA fun o e => up _ lan o e) lan lrw hlen hpos hA hE) (fun f s₂ hf => ?_) fun _ _ e => e
    obtain ⟨rfl, h', tk', m', rfl, K', T', F', hr1, hr2⟩ := hf
    obtain ⟨ps2, qs2, ownT2, ownP2, TC2⟩ := T'.codes
    have K'' : Keep3 L h h' := K'
    have Nr : News h₀ L h' rest := fun q hq => ⟨K'' _ _ (N0' q hq).2.1 (hno q hq).1 (hno q hq).2 (NT q (.tail _ (.tail _ (List.mem_append_right _ (List.mem_append_right _ hq))))), (N0' q hq).2⟩
    have N2 := lg TC2 Nr
    have farI := far s.heap.objs.size hLs
    obtain ⟨⟨oI, gI, _, dI⟩, -⟩ := hst
    have hI' := K'' _ _ farI.1 farI.2.1 farI.2.2 gI
    have cI : ∀ own, Has h' own → Codes own → ∀ q ∈ own, q.1 ∉ [s.heap.objs.size] := by
      intro own H C q hq hm
      obtain ⟨vs, n, t, d, e⟩ := C q hq
      have := H q hq
      rw [List.mem_singleton.mp hm, hI'] at this
      have := Option.some.inj this
      rw [← this, dI] at d
      cases d
      cases e
    refine .next ⟨rfl, h', tk', _, _, rfl, F', ?_, ?_, ps2, qs2, ownT2, ownP2, rfl, TC2.2.2.1, TC2.2.2.2.1, TC2.2.2.2.2.2.2.1, TC2.2.2.2.2.2.2.2.1, TC2.2.2.2.2.2.2.2.2.1, TC2.2.2.2.2.2.2.2.2.2, hr1, hr2⟩
    · intro q hq
      rcases List.mem_append.mp hq with hq | hq
      · have hq' := N₁ q (List.mem_append_left _ hq)
        have hf : q.1 ≠ 37 ∧ q.1 ≠ 44 := by
          rcases List.mem_cons.mp (hown q hq) with e | hm
          · rw [e]; exact farI.2
          · rw [List.mem_singleton.mp hm]; exact ⟨lT.2.1, lT.2.2.1⟩
        exact ⟨K'' _ _ hq'.2.1 hf.1 hf.2 hq'.1, hq'.2⟩
      · exact N2 q hq
    · intro q hq
      rcases List.mem_cons.mp hq with rfl | hq
      · exact fun hm => farI.2.1 (List.mem_singleton.mp hm).symm
      · rcases List.mem_cons.mp hq with rfl | hq
        · exact fun hm => farI.2.2 (List.mem_singleton.mp hm).symm
        · rcases List.mem_append.mp hq with hq | hq
          · exact cI _ TC2.2.1 TC2.2.2.2.2.2.2.2.2.1 q hq
          · rcases List.mem_append.mp hq with hq | hq
            · exact cI _ TC2.2.2.2.2.2.1 TC2.2.2.2.2.2.2.2.2.2 q hq
            · exact fun hm => absurd (Heap.lt_size (N0' q hq).1) ((List.mem_singleton.mp hm) ▸ Nat.lt_irrefl _)
  · rintro h' tk m' nw' F' N' _ ⟨ps1, qs1, ownT1, ownP1, rfl, y1, y2, y3, y4, y5, y6, y7, y8⟩
    have NT : ∀ q ∈ (37, tabObj ps1) :: (44, tabObj qs1) :: (ownT1 ++ (ownP1 ++ rest)), h'.get? q.1 = some q.2 := fun q hq => (N' q hq).1
    have K : Keep3 L s.heap h' := fun b o h1 h2 h3 e => (hk b o h1 h2 h3 e).elim (F'.keep b o) fun hm => NT (b, o) (.tail _ (.tail _ (List.mem_append_right _ (List.mem_append_right _ hm))))
    have TC : TabsC L h' ps1 qs1 ownT1 ownP1 := ⟨NT _ (.head _), fun q hq => NT q (.tail _ (.tail _ (List.mem_append_left _ hq))), y1, y2, NT _ (.tail _ (.head _)), fun q hq => NT q (.tail _ (.tail _ (List.mem_append_right _ (List.mem_append_left _ hq)))), y3, y4, y5, y6⟩
    exact hQ h' tk m' K TC.tabs F'
end
end Mine

namespace Mine
local macro_rules | `(tactic| walk_at "exec Assign cons ListComp") => `(tactic| (k_here; k_dflt (refine LCg.Assign_ListComp_U (F₀ := by k_asm) (by rfl) (by with_unfolding_all rfl) (by with_unfolding_all rfl) (by decide) (by rfl) (by decide) (by rfl) (by rfl) (by rfl) ?_); refine stop_intro ?_))
local macro_rules | `(tactic| walk_at "CompSrc") => `(tactic| ((with_reducible show LCg.CompSrc _ _ _ _ _ _ _ (Expr.Call _ _ _ _) _ _ _ _ _ _); refine stop_intro ?_))
local macro_rules | `(tactic| walk_at "pyIter ref") => `(tactic| ((with_reducible show wpAny _ _ (pyIter (Value.ref _)) (fun it s₂ => LoopAtV _ _ _ _ _ _ _ _ _ it s₂) _ _); refine stop_intro ?_))
local macro_rules | `(tactic| walk_at "exec For Name Tuple cons nil") => `(tactic| (refine stop_intro ?_))
local macro_rules | `(tactic| walk_at "call ref") => `(tactic| (k_here; refine stop_intro ?_))
local macro_rules | `(tactic| kpt_piece) => `(tactic| first
  | (refine after_intS0 (by kpc_g) rfl (by kpc_kind) rfl (by assumption) (by assumption) rfl (by kpc_none) ?_; intro _ _)
  | (refine after_intS (by kpc_g) rfl (by kpc_kind) rfl (by assumption) (by assumption) rfl (by kpc_none) ?_; intro _ _))
local macro_rules | `(tactic| kpt_hd) => `(tactic| assumption)
theorem nums_bound {l : List Int} {k : Int} (h : k ∈ List.map (fun k' => if (if k' < 0 then -k' else k') < 10 ^ Int.toNat 9 then k' else Int.fmod k' (10 ^ Int.toNat 9)) l ++ [931, 1005]) : -(10 ^ 9) < k ∧ k < 10 ^ 9 := by
  have e : (10 : Int) ^ Int.toNat 9 = 1000000000 := by decide
  rw [e] at h
  rcases List.mem_append.mp h with h | h
  · obtain ⟨x, -, rfl⟩ := List.mem_map.mp h
    have h1 := Int.fmod_nonneg_of_pos x (b := 1000000000) (by decide)
    have h2 := Int.fmod_lt_of_pos x (b := 1000000000) (by decide)
    show -(10 ^ 9) < (if (if x < 0 then -x else x) < 1000000000 then x else Int.fmod x 1000000000) ∧ (if (if x < 0 then -x else x) < 1000000000 then x else Int.fmod x 1000000000) < 10 ^ 9
    by_cases h4 : x < 0
    · rw [if_pos h4]
      by_cases h5 : -x < 1000000000
      · rw [if_pos h5]; omega
      · rw [if_neg h5]; omega
    · rw [if_neg h4]
      by_cases h5 : x < 1000000000
      · rw [if_pos h5]; omega
      · rw [if_neg h5]; omega
  · simp only [List.mem_cons, List.not_mem_nil, or_false] at h
    rcases h with rfl | rfl <;> decide
set_option maxHeartbeats 2000000 in
theorem main0 : PySem.Challenge.rw_mr0022_01.Holds := by
  refine hd ?_
  w_strict (k_go0; (all_goals try k_fold); k_steps)
  unfold StopHere
  w_strict k_steps
  unfold StopHere
  rename Fr _ _ _ _ => F
  rename News _ _ _ _ => N
  rename IntsAre _ (_ ++ _) => hI
  refine LCg.CompSrc.ledger rfl F N (by first | exact .head _ | exact .tail _ (.head _) | exact .tail _ (.tail _ (.head _))) ?hsz fun g => row_rest hI ?turn ?fin
  case hsz =>
    rw [List.size_toArray, hI.length, List.length_append, List.length_map, List.length_take, sizeLine_eq]
    simp only [List.length_cons, List.length_nil]
    omega
  case fin =>
    intro ys nr hrow
    unfold LCg.FinA
    intro rw' h tk F2 N2 _
    have R := row_at hrow N2
    have hyl := hrow.1
    have N3 := law_news N2
    clear N N2 F
    w_strict k_steps
    unfold StopHere
    refine for_F F2 (by rfl) (by rfl) (by intro _; rfl) (by passes_own) ?_
    w_strict k_steps
    unfold StopHere
    rename Fr _ _ _ _ => F5
    rename News _ _ _ _ => N5
    have e37 := (N5 (37, tabObj #[]) (by repeat (first | exact .head _ | apply List.Mem.tail))).1
    have e44 := (N5 (44, tabObj #[]) (by repeat (first | exact .head _ | apply List.Mem.tail))).1
    have z37 := (N5 (37, tabObj #[]) (by repeat (first | exact .head _ | apply List.Mem.tail))).2.2
    have z44 := (N5 (44, tabObj #[]) (by repeat (first | exact .head _ | apply List.Mem.tail))).2.2
    have nD := N5 _ (.tail _ (.tail _ (.tail _ (.tail _ (.tail _ (.tail _ (.tail _ (.tail _ (.tail _ (.tail _ (.head _)))))))))))
    have nR := N5 _ (.tail _ (.tail _ (.tail _ (.tail _ (.tail _ (.tail _ (.tail _ (.tail _ (.tail _ (.head _))))))))))
    have nT := N5 _ (.head _)
    have hR5 := row_at2 hrow nR.1 (fun q hq => (N5 q (.tail _ (.tail _ (.tail _ (.tail _ (.tail _ (.tail _ (.tail _ (.tail _ (.tail _ (.tail _ (.tail _ (.tail _ (.tail _ hq)))))))))))))).1)
    have hit := ans_items e37 e44 N5
    rename Frag.In _ _ => X5
    have h66 := Nat.le_trans (Nat.le_of_lt (Heap.lt_size (X5 66 _ (by rfl)))) F5.above
    have hlen5 := hI.length
    refine ans_loop (by rfl) X5 (by assumption) (by assumption) F5 (by rfl) (by rfl) z37 z44 (by assumption) (by assumption) h66 ⟨#[], #[], [], [], e37, (fun q hq => nomatch hq), (fun q hq => nomatch hq), .inl rfl, e44, (fun q hq => nomatch hq), (fun q hq => nomatch hq), .inl rfl⟩
      hR5 nR.1 hyl nD.1 (far_of nD (fun q => nomatch q) e37 e44) hI (far_of nR (fun q => nomatch q) e37 e44) ?_ ?_ ⟨_, nT.1, rfl, _, rfl⟩ (far_of nT (fun q => nomatch q) e37 e44) hit (by passes_own) ?_
    · rw [List.length_append, List.length_map, List.length_take]
      simp only [List.length_cons, List.length_nil]
      omega
    · rw [List.length_append]
      simp only [List.length_cons, List.length_nil]
      omega
    · intro h6 tk6 m6 K6 T6 F6
      obtain ⟨ps, qs, ownT, ownP, t1, t2, t3, t4, t5, t6, t7, t8⟩ := T6
      have nL37 := (N5 (37, tabObj #[]) (by repeat (first | exact .head _ | apply List.Mem.tail))).2.1
      have nL44 := (N5 (44, tabObj #[]) (by repeat (first | exact .head _ | apply List.Mem.tail))).2.1
      have N6 := news_cons (news_cons (fun q hq => nomatch hq : News _ _ h6 []) t5 nL44 z44) t1 nL37 z37
      clear N5 F5
      w_strict k_steps
  case turn =>
    intro k t I oI C oC Dd m₂ ys nr h tk E' hk hC hx F' N' off ne
    obtain ⟨hk1, hk2⟩ := nums_bound hk
    have hq1 : -(10 ^ 10) < k.fdiv 100 := by
      have := Int.mul_fdiv_add_fmod k 100
      have := Int.fmod_nonneg_of_pos k (b := 100) (by decide)
      have := Int.fmod_lt_of_pos k (b := 100) (by decide)
      omega
    have hq2 : k.fdiv 100 < 10 ^ 10 := by
      have := Int.mul_fdiv_add_fmod k 100
      have := Int.fmod_nonneg_of_pos k (b := 100) (by decide)
      have := Int.fmod_lt_of_pos k (b := 100) (by decide)
      omega
    have hr0 : 0 ≤ k.fmod 100 := Int.fmod_nonneg_of_pos k (b := 100) (by decide)
    have hr1 : -(10 ^ 10) < k.fmod 100 := by omega
    have hr2 : k.fmod 100 < 10 ^ 10 := by
      have := Int.fmod_lt_of_pos k (b := 100) (by decide)
      omega
    have sm : ∀ x : Int, -(10 ^ 10) < x → x < 10 ^ 10 → x.natAbs.log2 < 1920 := by
      intro x h1 h2
      by_cases h0 : x.natAbs = 0
      · rw [h0]; decide
      · exact Nat.lt_trans ((Nat.log2_lt h0 (k := 40)).mpr (by omega)) (by decide)
    have hl1 := sm _ hq1 hq2
    have hl2 := sm _ hr1 hr2
    clear F N
    w_strict k_steps
    unfold StopHere
    rename Fr _ _ _ _ => F2
    rename News _ _ _ _ => N2
    refine glc_call (by assumption) (by assumption) F2 (by assumption) rfl rfl hq1 hq2 hr0 hr2 fun h3 tk3 a3 u3 u4 k3 z3 o3 => ?_
    exact row_end F2 N2 off k3 z3 o3 (.inr ⟨_, .tail _ (List.mem_append_right _ (.head _)), rfl, _, rfl⟩)
end Mine

theorem PySem.Challenge.cw_mr0022_01_holds : PySem.Challenge.rw_mr0022_01.Holds := by
  exact Mine.main0

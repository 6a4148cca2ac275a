import PyProof.Rows.All
import Wide.All
import OpenK.AllK
import Wide.FinOn
import PySem.Challenge.RW_bp5027_01
open PySem PySem.W PySem.Calls PyProof.Rows
set_option Elab.async false
-- Hd
namespace Mine
set_option maxRecDepth 100000 in
set_option maxHeartbeats 8000000 in
open_top hd for PySem.Challenge.rw_bp5027_01
end Mine
set_option maxRecDepth 100000
namespace Mine
/-- the walker's words -/
theorem words : PySem.Challenge.rw_bp5027_01.Holds → Mine.hd.heap_39 = Mine.hd.heap_39 ∨ PySem.Challenge.rw_bp5027_01.Holds := by
  k_fill
  w_top off
  exact fun h => .inr h
end Mine
local macro_rules | `(tactic| walk_at "eval Name") => `(tactic| (k_here; (first | (with_reducible show wpAny _ _ (eval (Expr.Name _ _) (envOf _ _ _ _ _)) _ _ _) | (with_reducible show wpAny _ _ (eval (Expr.Name _ _) (envOfC _ _ _ _ _)) _ _ _)); k_dflt (first
  | (refine' nameX_L ?F ?v ?_ ?a ?b; (case F => k_asm); (case a => rfl); (case b => rfl); (case v => rfl); k_whole)
  | (refine' nameX_C ?N ?c ?m ?d ?_ ?a ?b; (case a => rfl); (case b => rfl); (case N => k_asm); (case c => rfl); (case m => k_mem); (case d => k_asm); k_whole)
  | (refine' nameX_K ?F ?X ?T ?e ?_ ?a ?b; (case F => k_asm); (case X => k_asm); (case T => k_asm); (case a => rfl); (case b => rfl); (case e => k_is); k_whole)
  | (refine' nameX_B ?F ?X ?T ?e ?v ?n ?_ ?a ?b; (case F => k_asm); (case X => k_asm); (case T => k_asm); (case a => rfl); (case b => rfl); (case e => k_is); (case v => boot_fast); (case n => decide); k_whole))))
local macro_rules | `(tactic| walk_at "ite") => `(tactic| first | with_reducible refine ite_tt ?_ | with_reducible refine ite_ff ?_)
local macro_rules | `(tactic| walk_at "execs cons Assign cons") => `(tactic| first | wtm_at "execs cons" | (k_here; k_gentoks) | ((with_reducible refine wpAny_execs_cons ?_); (try dsimp only)))
local macro_rules | `(tactic| size_fits) => `(tactic| first | ((with_reducible show List.length (List.cons _ _) ≤ _); simp only [List.length_cons, List.length_nil, PySem.sizeLine_eq]; decide) | ((with_reducible show List.length List.nil ≤ _); exact Nat.zero_le _))
local macro_rules | `(tactic| walk_at "UnrEnd") => `(tactic| wtm_at "UnrEnd")
local macro_rules | `(tactic| walk_at "UnrEndW") => `(tactic| wtm_at "UnrEndW")
local macro_rules | `(tactic| walk_at "assign Tuple") => `(tactic| wtm_at "assign Tuple")
local macro_rules | `(tactic| walk_at "binaryOp Add ref ref") => `(tactic| wtm_at "binaryOp Add ref ref")
local macro_rules | `(tactic| walk_at "binaryOp Add str str") => `(tactic| wtm_at "binaryOp Add str str")
local macro_rules | `(tactic| walk_at "binaryOp Mod int int") => `(tactic| wtm_at "binaryOp Mod int int")
local macro_rules | `(tactic| walk_at "call builtin:len") => `(tactic| wtm_at "call builtin:len")
local macro_rules | `(tactic| walk_at "call builtin:list.insert") => `(tactic| wtm_at "call builtin:list.insert")
local macro_rules | `(tactic| walk_at "call builtin:str.join") => `(tactic| wtm_at "call builtin:str.join")
local macro_rules | `(tactic| walk_at "call ref") => `(tactic| wtm_at "call ref")
local macro_rules | `(tactic| walk_at "call type:list") => `(tactic| wtm_at "call type:list")
local macro_rules | `(tactic| walk_at "call type:reversed") => `(tactic| wtm_at "call type:reversed")
local macro_rules | `(tactic| walk_at "call type:str") => `(tactic| wtm_at "call type:str")
local macro_rules | `(tactic| walk_at "call type:zip") => `(tactic| wtm_at "call type:zip")
local macro_rules | `(tactic| walk_at "compareOp Eq ref ref") => `(tactic| wtm_at "compareOp Eq ref ref")
local macro_rules | `(tactic| walk_at "compareOp Is ref ref") => `(tactic| wtm_at "compareOp Is ref ref")
local macro_rules | `(tactic| walk_at "compareOp IsNot ref ref") => `(tactic| wtm_at "compareOp IsNot ref ref")
local macro_rules | `(tactic| walk_at "delItem ref int") => `(tactic| wtm_at "delItem ref int")
local macro_rules | `(tactic| walk_at "eval ListComp") => `(tactic| wtm_at "eval ListComp")
local macro_rules | `(tactic| walk_at "exec Assign cons ListComp") => `(tactic| wtm_at "exec Assign cons ListComp")
local macro_rules | `(tactic| walk_at "exec For") => `(tactic| wtm_at "exec For")
local macro_rules | `(tactic| walk_at "exec For Name Name cons nil") => `(tactic| wtm_at "exec For Name Name cons nil")
local macro_rules | `(tactic| walk_at "exec For Tuple Call cons nil") => `(tactic| wtm_at "exec For Tuple Call cons nil")
local macro_rules | `(tactic| walk_at "exec Try") => `(tactic| wtm_at "exec Try")
local macro_rules | `(tactic| walk_at "execs cons") => `(tactic| wtm_at "execs cons")
local macro_rules | `(tactic| walk_at "getAttr ref") => `(tactic| wtm_at "getAttr ref")
local macro_rules | `(tactic| walk_at "leaving ref") => `(tactic| wtm_at "leaving ref")
local macro_rules | `(tactic| walk_at "noteFrame ref") => `(tactic| wtm_at "noteFrame ref")
local macro_rules | `(tactic| walk_at "pyIter ref") => `(tactic| wtm_at "pyIter ref")
local macro_rules | `(tactic| walk_at "setAttr ref") => `(tactic| wtm_at "setAttr ref")
local macro_rules | `(tactic| walk_at "storeName") => `(tactic| wtm_at "storeName")
local macro_rules | `(tactic| walk_at "subscriptTail") => `(tactic| wtm_at "subscriptTail")
local macro_rules | `(tactic| walk_at "subscriptTail Name BinOp ref int") => `(tactic| wtm_at "subscriptTail Name BinOp ref int")
local macro_rules | `(tactic| walk_at "subscriptTail Name Name ref int") => `(tactic| wtm_at "subscriptTail Name Name ref int")
local macro_rules | `(tactic| walk_at "subscriptTail Name Slice ref ref") => `(tactic| wtm_at "subscriptTail Name Slice ref ref")
local macro_rules | `(tactic| walk_at "truthy ref") => `(tactic| wtm_at "truthy ref")
-- Base
namespace Mine

/-- all but S stands as it stood -/
def Ext (S : List Addr) (h h' : Heap) : Prop := ∀ b o, b ∉ S → h.get? b = some o → h'.get? b = some o
theorem Ext.refl (S : List Addr) (h : Heap) : Ext S h h := fun _ _ _ e => e
theorem Ext.trans {S : List Addr} {h h' h'' : Heap} (x : Ext S h h') (y : Ext S h' h'') : Ext S h h'' := fun b o n e => y b o n (x b o n e)
theorem Ext.mono {S S' : List Addr} {h h' : Heap} (x : Ext S h h') (k : ∀ b ∈ S, b ∈ S') : Ext S' h h' := fun b o n e => x b o (fun q => n (k b q)) e
theorem Ext.fr {S : List Addr} {h₀ h h' : Heap} {L : Addr} {m : Str → Option Value} (x : Ext S h h') (F : Fr h₀ L h m) (hL : L ∉ S) (h0 : ∀ b ∈ S, h₀.get? b = none) : Fr h₀ L h' m :=
  ⟨F.ns.at' fun o e => x L o hL e, fun b o e => x b o (fun q => by rw [h0 b q] at e; cases e) (F.keep b o e), F.above⟩
theorem Ext.news {S : List Addr} {h₀ h h' : Heap} {L : Addr} {news : List (Addr × Obj)} (x : Ext S h h') (N : News h₀ L h news) (hn : ∀ p ∈ news, p.1 ∉ S) : News h₀ L h' news :=
  fun p hp => ⟨x _ _ (hn p hp) (N p hp).1, (N p hp).2⟩

theorem Ext.less {S S' : List Addr} {h h' : Heap} (x : Ext S h h') (k : ∀ b ∈ S, b ∉ S' → ∀ o, h.get? b = some o → h'.get? b = some o) : Ext S' h h' := fun b o n e => by
  by_cases q : b ∈ S
  · exact k b q n o e
  · exact x b o q e
theorem ext_of {S : List Addr} {g h h' : Heap} {L : Addr} {m : Str → Option Value} (HG : ∀ b o, h.get? b = some o → b ∉ S → g.get? b = some o) (F : Fr g L h' m) : Ext S h h' := fun b o n e => F.keep b o (HG b o e n)

section
variable {prog : Program} {w : World} {A A₀ : Around} {s : Shared} {K : Frag} {L : Addr} {h₀ base : Heap} {m mg mb : Str → Option Value} {news : List (Addr × Obj)} {p : Program} {loose : List Str} {mean : ExcName → Option Value}

theorem code_mine {env : Env} {outer : List Env} {R : Result → Shared → Prop} {name qual : Str} {params : Arguments} {body : List Stmt} {scope : Scope} {dV kV doc pm cdv ct oc : Value} {an od : Option Addr} {osl : Array (Option Value)} {f : Addr} {args : Args} {binds : List (Str × Value)}
    (B : Below A₀ base outer h₀) (F : Fr h₀ L s.heap m) (X₀ : K.In h₀) (N : News h₀ L s.heap news) (T : Top p loose mean mg mb h₀) (hA : A.frames = some (env :: outer)) (hf : env.frame = some L) (hke : env.scope.kind = .function)
    (ho : K.lookup f = some ⟨oc, od, .func (fnOf name qual params body scope dV kV doc pm an cdv ct), osl⟩) (hcd : codeIn K cdv qual = true) (hroom : A.depth < recursionLimit)
    (hbind : BindsTo s (fnOf name qual params body scope dV kV doc pm an cdv ct) args binds) (hloc : ∀ y ∈ binds, scope.names.lookup y.1 = some .local)
    (h : ∀ g L' h₁, Fr g L' h₁ (fun y => binds.reverse.lookup y) → News g L' h₁ news → Below A base (env :: outer) g → K.In g → Top p loose mean mg mb g →
      (∀ p ∈ news, p.1 < L') → (∀ b o, s.heap.get? b = some o → b ∉ news.map (·.1) → g.get? b = some o) → L' = s.heap.objs.size →
      wpAny (model prog w) (A.deeper (envOf qual scope L' f cdv)) (execs body (envOf qual scope L' f cdv))
        (fun fl s' => R (.ok (.ret (match fl with | .ret v => v | _ => .none))) s')
        (fun e s' => wpAny (model prog w) (A.deeper (envOf qual scope L' f cdv)) (leaving (envOf qual scope L' f cdv) e) (fun _ s'' => R (.error e) s'') (fun e' s'' => R (.error e') s'') s')
        { s with heap := h₁, toks := s.toks + binds.length })
    (hco : scope.isCoroutine = false) (hgen : scope.isGenerator = false) (hk : scope.kind = .function)
    (hcell : ∀ x ∈ scope.names, x.2 ≠ .cell) : codeAny (model prog w) A (.call (.ref f) args) R s := by
  obtain ⟨FG, BG, st, lv⟩ := groundX (R := R) B F N hA hf hke
  refine codeAny_call_def (fd := fnX name qual params body scope [] dV kV doc pm an cdv ct) (body := body) (binds := binds) hroom ((X₀.keeps F.keep) _ _ ho) rfl (T.nolimit.keeps F.keep) (codeRec_of (X₀.keeps F.keep) hcd) rfl hbind hcell hloc (fun h₁ hns hk₁ => ?_) hco hgen hk
  exact h _ s.heap.objs.size h₁ ⟨hns, fun b o e => hk₁ b o (of_hideAll _ e), Nat.le_of_eq (hideAll_size _ _)⟩
    (fun p hp => ⟨hk₁ _ _ (N p hp).1, Nat.ne_of_lt (Heap.lt_size (N p hp).1), hideAll_none _ (List.mem_map_of_mem hp)⟩) BG (X₀.keeps st) (T.keeps st) (fun p hp => Heap.lt_size (N p hp).1) (fun b o e n => hideAll_get _ e n) rfl


theorem code_mineR {env : Env} {outer : List Env} {R : Result → Shared → Prop} {name qual : Str} {params : Arguments} {body : List Stmt} {scope : Scope} {dV kV doc pm cdv ct oc : Value} {an od : Option Addr} {osl : Array (Option Value)} {f : Addr} {args : Args} {binds : List (Str × Value)}
    (B : Below A₀ base outer h₀) (F : Fr h₀ L s.heap m) (X₀ : K.In h₀) (N : News h₀ L s.heap news) (T : Top p loose mean mg mb h₀) (hA : A.frames = some (env :: outer)) (hf : env.frame = some L) (hke : env.scope.kind = .function)
    (ho : K.lookup f = some ⟨oc, od, .func (fnOf name qual params body scope dV kV doc pm an cdv ct), osl⟩) (hcd : codeIn K cdv qual = true) (hroom : A.depth < recursionLimit)
    (hbind : BindsTo s (fnOf name qual params body scope dV kV doc pm an cdv ct) args binds) (hloc : ∀ y ∈ binds, scope.names.lookup y.1 = some .local)
    (h : ∀ g L' h₁, Fr g L' h₁ (fun y => binds.reverse.lookup y) → News g L' h₁ news → Below A base (env :: outer) g → K.In g → Top p loose mean mg mb g →
      (∀ p ∈ news, p.1 < L') → (∀ b o, s.heap.get? b = some o → b ∉ news.map (·.1) → g.get? b = some o) → L' = s.heap.objs.size → Fr h₀ L g m →
      wpAny (model prog w) (A.deeper (envOf qual scope L' f cdv)) (execs body (envOf qual scope L' f cdv))
        (fun fl s' => R (.ok (.ret (match fl with | .ret v => v | _ => .none))) s')
        (fun e s' => wpAny (model prog w) (A.deeper (envOf qual scope L' f cdv)) (leaving (envOf qual scope L' f cdv) e) (fun _ s'' => R (.error e) s'') (fun e' s'' => R (.error e') s'') s')
        { s with heap := h₁, toks := s.toks + binds.length })
    (hco : scope.isCoroutine = false) (hgen : scope.isGenerator = false) (hk : scope.kind = .function)
    (hcell : ∀ x ∈ scope.names, x.2 ≠ .cell) : codeAny (model prog w) A (.call (.ref f) args) R s := by
  obtain ⟨FG, BG, st, lv⟩ := groundX (R := R) B F N hA hf hke
  refine codeAny_call_def (fd := fnX name qual params body scope [] dV kV doc pm an cdv ct) (body := body) (binds := binds) hroom ((X₀.keeps F.keep) _ _ ho) rfl (T.nolimit.keeps F.keep) (codeRec_of (X₀.keeps F.keep) hcd) rfl hbind hcell hloc (fun h₁ hns hk₁ => ?_) hco hgen hk
  exact h _ s.heap.objs.size h₁ ⟨hns, fun b o e => hk₁ b o (of_hideAll _ e), Nat.le_of_eq (hideAll_size _ _)⟩
    (fun p hp => ⟨hk₁ _ _ (N p hp).1, Nat.ne_of_lt (Heap.lt_size (N p hp).1), hideAll_none _ (List.mem_map_of_mem hp)⟩) BG (X₀.keeps st) (T.keeps st) (fun p hp => Heap.lt_size (N p hp).1) (fun b o e n => hideAll_get _ e n) rfl FG


theorem code_mineC {env : Env} {outer : List Env} {R : Result → Shared → Prop} {name qual : Str} {params : Arguments} {body : List Stmt} {scope : Scope} {dV kV doc pm cdv ct oc : Value} {an od : Option Addr} {osl : Array (Option Value)} {f : Addr} {args : Args} {binds : List (Str × Value)}
    (B : Below A₀ base outer h₀) (F : Fr h₀ L s.heap m) (X₀ : K.In h₀) (N : News h₀ L s.heap news) (T : Top p loose mean mg mb h₀) (hA : A.frames = some (env :: outer)) (hf : env.frame = some L) (hke : env.scope.kind = .function)
    (ho : K.lookup f = some ⟨oc, od, .func (fnOf name qual params body scope dV kV doc pm an cdv ct), osl⟩) (hcd : codeIn K cdv qual = true) (hroom : A.depth < recursionLimit)
    (hbind : BindsTo s (fnOf name qual params body scope dV kV doc pm an cdv ct) args binds) (hkind : (binds.all fun y => scope.names.lookup y.1 == some .local || scope.names.lookup y.1 == some .cell) = true)
    (hnd : ((cellsFrom 0 scope.names []).map (·.1)).Nodup)
    (h : ∀ g L' h₁ tk cells, Fr g L' h₁ (bindL (envOfC qual scope L' f cdv).kindOf binds fun _ => none) → News g L' h₁ (cells ++ news) →
      CellsAre (bindC (envOfC qual scope L' f cdv).kindOf binds fun _ => none) (cellsFrom (L' + 1) scope.names []) cells → Below A base (env :: outer) g → K.In g → Top p loose mean mg mb g → (∀ p ∈ news, p.1 < L') →
      (∀ b o, s.heap.get? b = some o → b ∉ news.map (·.1) → g.get? b = some o) → L' = s.heap.objs.size →
      wpAny (model prog w) (A.deeper (envOfC qual scope L' f cdv)) (execs body (envOfC qual scope L' f cdv))
        (fun fl s' => R (.ok (.ret (match fl with | .ret v => v | _ => .none))) s')
        (fun e s' => wpAny (model prog w) (A.deeper (envOfC qual scope L' f cdv)) (leaving (envOfC qual scope L' f cdv) e) (fun _ s'' => R (.error e) s'') (fun e' s'' => R (.error e') s'') s')
        { s with heap := h₁, toks := tk })
    (hco : scope.isCoroutine = false) (hgen : scope.isGenerator = false) (hk : scope.kind = .function) : codeAny (model prog w) A (.call (.ref f) args) R s := by
  obtain ⟨FG, BG, st, lv⟩ := groundX (R := R) B F N hA hf hke
  refine codeAny_call_function hroom ((X₀.keeps F.keep) _ _ ho) rfl hco hgen rfl (codeRec_of (X₀.keeps F.keep) hcd) (hbind _ _ _ _ ?_)
  refine wpAny_newFunctionEnv_cells hk (kindsX hkind _) fun env' he s' x => ?_
  subst he
  refine ⟨(T.nolimit.keeps F.keep).keeps x.toInCall.keep, codeAny_func ?_⟩
  obtain ⟨h₁, tk, rfl, _⟩ := x.done
  have hk₁ := x.toInCall.keep
  obtain ⟨cells, NC, Y⟩ := Cl.news (h₀ := s.heap) (Nat.le_refl _) fun n c hm => ⟨x.cell n c (lookup_of_mem_nodup (cellsFrom_names scope.names 0 (s.heap.objs.size + 1) [] [] rfl ▸ hnd) hm), x.above n c hm⟩
  refine h _ s.heap.objs.size h₁ tk cells ⟨x.toInCall.ns, fun b o e => hk₁ b o (of_hideAll _ e), Nat.le_of_eq (hideAll_size _ _)⟩ (fun p hp => ?_) Y BG (X₀.keeps st) (T.keeps st) (fun p hp => Heap.lt_size (N p hp).1) (fun b o e n => hideAll_get _ e n) rfl
  rcases List.mem_append.mp hp with hp | hp
  · refine ⟨(NC p hp).1, (NC p hp).2.1, ?_⟩
    cases q : (hideAll s.heap (news.map (·.1))).get? p.1 with
    | none => rfl
    | some o => have := of_hideAll _ q; rw [(NC p hp).2.2] at this; cases this
  · exact ⟨hk₁ _ _ (N p hp).1, Nat.ne_of_lt (Heap.lt_size (N p hp).1), hideAll_none _ (List.mem_map_of_mem hp)⟩


theorem make_raw {rest : List Value} {kw : List (Str × Value)} {fI C : Addr} {R : Result → Shared → Prop} (F : Fr h₀ L s.heap m) (N : News h₀ L s.heap news) (X : K.In h₀) (hm : makesIn K C = true)
    (hi : findIn K (.ref C) "__init__" = some (some (.ref fI))) (hf : typeIn K (.ref fI) = some (.type "function"))
    (h : ∀ x dx h2, dx = s.heap.objs.size → dx < x → h2.objs.size = x + 1 → Ext [] s.heap h2 → Fr h₀ L h2 m → News h₀ L h2 ((x, instObj C dx) :: (dx, dictOf [] 0) :: news) → (∀ p ∈ news, p.1 < dx) →
      codeAny (model prog w) (A.under (.builtin "type.__call__" ⟨.ref C :: rest, kw⟩)) (.call (.ref fI) ⟨.ref x :: rest, kw⟩) (InitBack x R) { s with heap := h2 }) :
    codeAny (model prog w) A (.call (.ref C) ⟨rest, kw⟩) R s := by
  have X₀ := X.keeps F.keep
  obtain ⟨hh, g, d, t, os⟩ := s
  refine make_core (makes_of X₀ hm) (looks_findIn X₀ hi) (fun self => bind_fn X₀ self hf) (.inl rfl) (h _ hh.objs.size _ rfl (Nat.lt_succ_self _) (by rw [Heap.size_push, Heap.size_push]) (fun b o _ e => Heap.get?_push_of_some _ (Heap.get?_push_of_some _ e)) ((F.push _).push _) ?_ (fun p hp => Heap.lt_size (N p hp).1))
  have := (N.push F emptyDict).push (F.push _) (instObj C hh.objs.size)
  rwa [Heap.size_push] at this
end
/-- the ledger without the addresses S -/
def Off (S : List Addr) (news : List (Addr × Obj)) : List (Addr × Obj) := news.filter fun p => !S.contains p.1
theorem mem_off {S : List Addr} {news : List (Addr × Obj)} {p : Addr × Obj} : p ∈ Off S news ↔ p ∈ news ∧ p.1 ∉ S := by
  unfold Off; rw [List.mem_filter]; simp
theorem off_ne {S : List Addr} {news : List (Addr × Obj)} {a : Addr} (h : a ∈ S) : ∀ p ∈ Off S news, p.1 ≠ a := fun p hp e => (mem_off.mp hp).2 (e ▸ h)

section
variable {prog : Program} {w : World} {A : Around} {E : Value → Shared → Prop} {s : Shared} {env : Env} {h₀ : Heap} {x : Str} {body : List Stmt} {Q : Flow → Shared → Prop}
def LEnd (h₀ : Heap) (L : Addr) (I : Addr) (oI : Obj) (l : Addr) (ol : Obj) (J : (Str → Option Value) → List (Addr × Obj) → Prop) (s₁ : Shared) (Q : Flow → Shared → Prop) (f : Flow) (s₂ : Shared) : Prop :=
  match f with
  | .ret v => Q (.ret v) s₂
  | .brk => Q .next s₂
  | _ => ∃ h' tk m' news', s₂ = { s₁ with heap := h', toks := tk } ∧ Fr h₀ L h' m' ∧ News h₀ L h' news' ∧ h'.get? I = some oI ∧ h'.get? l = some ol ∧ (∀ p ∈ news', p.1 ≠ I) ∧ J m' news'
theorem iter_listN {l : Addr} {vs : List Value} {nl : Nat} {m₀ : Str → Option Value} {news : List (Addr × Obj)} (J : Nat → (Str → Option Value) → List (Addr × Obj) → Prop)
    (hh : A.handled = none) (F : Fr h₀ env.locals s.heap m₀) (N : News h₀ env.locals s.heap news) (hl : s.heap.get? l = some (listOf vs.toArray nl)) (hlL : l ≠ env.locals) (hj : J 0 m₀ news)
    (turn : ∀ i v m₁ news₁ h tk I oI, vs[i]? = some v → J i m₁ news₁ → Fr h₀ env.locals h (fun y => if y = x then some v else m₁ y) → News h₀ env.locals h news₁ → h.get? I = some oI → s.heap.objs.size ≤ I → h₀.get? I = none → I ≠ env.locals → h.get? l = some (listOf vs.toArray nl) → (∀ p ∈ news₁, p.1 ≠ I) →
      wpAny (model prog w) A (execs body env) (LEnd h₀ env.locals I oI l (listOf vs.toArray nl) (J (i + 1)) { s with heap := h, toks := tk } Q) E { s with heap := h, toks := tk })
    (done : ∀ m₁ news₁ h tk, J vs.length m₁ news₁ → Fr h₀ env.locals h m₁ → News h₀ env.locals h news₁ → Q .next { s with heap := h, toks := tk }) :
    wpAny (model prog w) A (pyIter (.ref l)) (fun it s₂ => LoopAtV prog w A h₀ env x body Q E it s₂) E s := by
  have hls : s.heap.IsList l vs.toArray := ⟨_, hl, rfl, _, rfl⟩
  have hlt : l < s.heap.objs.size := Heap.lt_size hl
  have hne : l ≠ s.heap.objs.size := Nat.ne_of_lt hlt
  refine wpAny_pyIter_list hls ?_
  let ol := listOf vs.toArray nl
  have W₀ := Walks.list (prog := prog) (w := w) hh s.heap.objs.size l hne vs.toArray
  have W : Walks prog w A s.heap.objs.size [s.heap.objs.size, l] [s.heap.objs.size] vs.length (fun i v => vs[i]? = some v) (fun i h => h.IsListIter s.heap.objs.size l i ∧ h.get? l = some ol) := {
    sub := fun b hb => by simp at hb; simp [hb]
    frame := fun _ _ _ st hk => ⟨st.1.at fun o e => hk _ (by simp) o e, hk l (by simp) _ st.2⟩
    item := fun i s Q E hi st hQ => W₀.item i s Q E (by simpa using hi) ⟨st.1, _, st.2, rfl, _, rfl⟩ fun v h' tk hP hst hk => hQ v h' tk (by simpa using hP) ⟨hst.1, hk l _ (by simpa using hne) st.2⟩ hk
    done := fun s Q E st hQ => W₀.done s Q E ⟨by simpa using st.1, _, st.2, rfl, _, rfl⟩ hQ
    self := fun i s Q E st hQ => W₀.self i s Q E ⟨st.1, _, st.2, rfl, _, rfl⟩ hQ }
  refine ⟨_, _, _, vs.length, _, _, m₀, news, J, rfl, W, ?_, ?_, ?_, ⟨⟨_, Heap.get?_push_size _ rfl, rfl, rfl⟩, Heap.get?_push_of_some _ hl⟩, F.push _, (fun p hp => ⟨Heap.get?_push_of_some _ (N p hp).1, (N p hp).2⟩), hj, ?_, ?_⟩
  · intro hm
    rcases List.mem_cons.mp hm with e | hm
    · exact absurd F.ns.lt (e ▸ Nat.lt_irrefl _)
    · exact hlL (List.mem_singleton.mp hm).symm
  · intro b hb
    rw [List.mem_singleton.mp hb]
    exact next_is_new F
  · intro p hp hI
    exact absurd (Heap.lt_size (N p hp).1) ((List.mem_singleton.mp hI) ▸ Nat.lt_irrefl _)
  · rintro i v m₁ news₁ s₁ own ⟨hh', tk', rfl⟩ hin hP hJ hoff hown hget hall hst F₁ N₁
    obtain ⟨⟨oI, heI, r⟩, hel⟩ := hst
    have hI₀ := next_is_new F
    have hIL : s.heap.objs.size ≠ env.locals := fun e => absurd F.ns.lt (e ▸ Nat.lt_irrefl _)
    have hoI := hall s.heap.objs.size (.head _) hI₀ oI heI
    refine wpAny_mono (turn i v m₁ news₁ hh' tk' s.heap.objs.size oI hP hJ F₁ (fun p hp => N₁ p (List.mem_append_right _ hp)) heI (Nat.le_refl _) hI₀ hIL hel (fun p hp e => hoff p hp (by rw [e]; exact List.mem_singleton.mpr rfl))) (fun f s₂ p => ?_) fun _ _ e => e
    have fin : (∃ h' tk m' news', s₂ = { s with heap := h', toks := tk } ∧ Fr h₀ env.locals h' m' ∧ News h₀ env.locals h' news' ∧ h'.get? s.heap.objs.size = some oI ∧ h'.get? l = some (listOf vs.toArray nl) ∧ (∀ p ∈ news', p.1 ≠ s.heap.objs.size) ∧ J (i + 1) m' news') →
        LoopStepU h₀ env.locals [s.heap.objs.size] own (J (i + 1)) { s with heap := hh', toks := tk' } .next s₂ := by
      rintro ⟨h', tk, m', news', rfl, F', N', eI, el, hn, hm⟩
      refine ⟨rfl, h', tk, m', news', rfl, F', fun p hp => ?_, fun p hp hq => hn p hp (List.mem_singleton.mp hq), hm⟩
      rcases List.mem_append.mp hp with hp | hp
      · have hg := hget p hp
        refine ⟨?_, (N₁ p (List.mem_append_left _ hp)).2⟩
        rcases List.mem_cons.mp (hown p hp) with h1 | h1
        · rw [h1] at hg ⊢; rw [heI] at hg; rw [eI, hg]
        · have h2 := List.mem_singleton.mp h1
          rw [h2] at hg ⊢; rw [hel] at hg; rw [el]; exact hg
      · exact N' p hp
    cases f with
    | ret v => exact .ret p
    | brk => exact .brk p
    | next => exact .next (fin p)
    | cont => exact .cont (fin p)
  · rintro h' tk m' news' F' N' _ hJ
    exact done m' news' h' tk hJ F' N'
/-- the loop turns only its own name in the frame -/
def MEnd (h₀ : Heap) (L : Addr) (x : Str) (m₀ : Str → Option Value) (I : Addr) (oI : Obj) (l : Addr) (ol : Obj) (J : List (Addr × Obj) → Prop) (s : Shared) (Q : Flow → Shared → Prop) (f : Flow) (s₂ : Shared) : Prop :=
  match f with
  | .ret v => Q (.ret v) s₂
  | .brk => Q .next s₂
  | _ => ∃ h' tk' v' news', s₂ = { s with heap := h', toks := tk' } ∧ Fr h₀ L h' (fun y => if y = x then v' else m₀ y) ∧ News h₀ L h' news' ∧ h'.get? I = some oI ∧ h'.get? l = some ol ∧ (∀ p ∈ news', p.1 ≠ I) ∧ J news'
theorem MEnd.go {L : Addr} {m₀ : Str → Option Value} {I : Addr} {oI : Obj} {l : Addr} {ol : Obj} {J : List (Addr × Obj) → Prop} {v' : Option Value} {news' : List (Addr × Obj)} {h' : Heap} {g : Array GenState} {d : Drawn} {tk : Nat} {os : OsState} (F : Fr h₀ L h' (fun y => if y = x then v' else m₀ y))
    (N : News h₀ L h' news') (hI : h'.get? I = some oI) (hl : h'.get? l = some ol) (hn : ∀ p ∈ news', p.1 ≠ I) (hJ : J news') (hs : s = ⟨s.heap, g, d, s.toks, os⟩) : MEnd h₀ L x m₀ I oI l ol J s Q .next ⟨h', g, d, tk, os⟩ := by
  have e : (⟨h', g, d, tk, os⟩ : Shared) = { s with heap := h', toks := tk } := by rw [hs]
  exact ⟨h', tk, v', news', e, F, N, hI, hl, hn, hJ⟩
theorem iter_listM {l : Addr} {vs : List Value} {nl : Nat} {m₀ : Str → Option Value} {news : List (Addr × Obj)} (J : Nat → List (Addr × Obj) → Prop)
    (hh : A.handled = none) (F : Fr h₀ env.locals s.heap m₀) (N : News h₀ env.locals s.heap news) (hl : s.heap.get? l = some (listOf vs.toArray nl)) (hlL : l ≠ env.locals) (hj : J 0 news)
    (turn : ∀ i v news₁ h tk I oI, vs[i]? = some v → J i news₁ → Fr h₀ env.locals h (fun y => if y = x then some v else m₀ y) → News h₀ env.locals h news₁ → h.get? I = some oI → s.heap.objs.size ≤ I → h₀.get? I = none → I ≠ env.locals → h.get? l = some (listOf vs.toArray nl) → (∀ p ∈ news₁, p.1 ≠ I) →
      wpAny (model prog w) A (execs body env) (MEnd h₀ env.locals x m₀ I oI l (listOf vs.toArray nl) (J (i + 1)) s Q) E { s with heap := h, toks := tk })
    (done : ∀ v' news₁ h tk, J vs.length news₁ → Fr h₀ env.locals h (fun y => if y = x then v' else m₀ y) → News h₀ env.locals h news₁ → Q .next { s with heap := h, toks := tk }) :
    wpAny (model prog w) A (pyIter (.ref l)) (fun it s₂ => LoopAtV prog w A h₀ env x body Q E it s₂) E s := by
  refine iter_listN (fun i m news => (∃ v', m = fun y => if y = x then v' else m₀ y) ∧ J i news) hh F N hl hlL ⟨⟨m₀ x, by funext y; by_cases h : y = x <;> simp [h]⟩, hj⟩ ?_ ?_
  · rintro i v m₁ news₁ h tk I oI hv ⟨⟨v', rfl⟩, hJ⟩ F N a1 a2 a3 a4 a5 a6
    have e : (fun y => if y = x then some v else if y = x then v' else m₀ y) = fun y => if y = x then some v else m₀ y := by funext y; by_cases h : y = x <;> simp [h]
    rw [e] at F
    refine wpAny_mono (turn i v news₁ h tk I oI hv hJ F N a1 a2 a3 a4 a5 a6) (fun f s₂ p => ?_) fun _ _ e => e
    cases f with
    | ret v => exact p
    | brk => exact p
    | next => obtain ⟨h', tk', v', news', rfl, F', N', b1, b2, b3, b4⟩ := p; exact ⟨h', tk', _, news', rfl, F', N', b1, b2, b3, ⟨v', rfl⟩, b4⟩
    | cont => obtain ⟨h', tk', v', news', rfl, F', N', b1, b2, b3, b4⟩ := p; exact ⟨h', tk', _, news', rfl, F', N', b1, b2, b3, ⟨v', rfl⟩, b4⟩
  · rintro m₁ news₁ h tk ⟨⟨v', rfl⟩, hJ⟩ F N
    exact done v' news₁ h tk hJ F N
end

abbrev pw := PySem.Challenge.pw_bp5027_01
abbrev tupOf (vs : List Value) : Obj := { cls := .type "tuple", data := .seq vs.toArray }
/-- an object and its dict -/
structure IsObj (h : Heap) (x C d : Addr) (es : List DictEntry) (n : Nat) : Prop where
  obj : h.get? x = some (instObj C d)
  dct : h.get? d = some (dictOf es n)
theorem getL_put_self {name : Str} {hsh : Int} {t : Tok} {v : Value} : ∀ {es : List DictEntry}, getL name (putL name hsh (.str name t) v es) = some (some v) := by
  intro es
  have key : (putL name hsh (.str name t) v es).find? (·.key.isStr name) = none → False := by
    induction es with
    | nil => simp [putL, Value.isStr]
    | cons e r ih =>
      unfold putL
      by_cases h : e.key.isStr name = true
      · rw [if_pos h]; simp [h]
      · rw [if_neg h]; simp only [List.find?_cons]
        have : e.key.isStr name = false := by simpa using h
        rw [this]; exact ih
  have val : ∀ e, (putL name hsh (.str name t) v es).find? (·.key.isStr name) = some e → e.val = v := by
    clear key
    induction es with
    | nil => intro e h; simp [putL, Value.isStr] at h; rw [← h]
    | cons e r ih =>
      intro e' h'
      unfold putL at h'
      by_cases h : e.key.isStr name = true
      · rw [if_pos h] at h'; simp [h] at h'; rw [← h']
      · rw [if_neg h] at h'; simp only [List.find?_cons] at h'
        have : e.key.isStr name = false := by simpa using h
        rw [this] at h'; exact ih e' h'
  unfold getL
  cases q : (putL name hsh (.str name t) v es).find? (·.key.isStr name) with
  | none => exact (key q).elim
  | some e => simp only [val e q]
theorem isStr_ne {name name' : Str} {v : Value} (h : name' ≠ name) (e : v.isStr name = true) : v.isStr name' = false := by
  cases v <;> simp_all [Value.isStr]
  exact fun q => h q.symm
theorem putL_any {name : Str} {hsh : Int} {t : Tok} {v : Value} : ∀ {es : List DictEntry}, (putL name hsh (.str name t) v es).any (·.refKey) = es.any (·.refKey) := by
  intro es
  induction es with
  | nil => simp [putL, DictEntry.refKey]
  | cons e r ih =>
    unfold putL
    by_cases h : e.key.isStr name = true
    · rw [if_pos h]; simp only [List.any_cons]; congr 1
    · rw [if_neg h]; simp only [List.any_cons, ih]
theorem getL_put_ne {name name' : Str} {hsh : Int} {t : Tok} {v : Value} (hne : name' ≠ name) : ∀ {es : List DictEntry}, getL name' (putL name hsh (.str name t) v es) = getL name' es := by
  intro es
  have f : ((putL name hsh (.str name t) v es).find? (·.key.isStr name')).map (·.val) = (es.find? (·.key.isStr name')).map (·.val) := by
    induction es with
    | nil => simp [putL, Value.isStr]; exact fun q => hne q.symm
    | cons e r ih =>
      unfold putL
      by_cases h : e.key.isStr name = true
      · rw [if_pos h]; simp only [List.find?_cons, isStr_ne hne h]
      · rw [if_neg h]; simp only [List.find?_cons]
        cases e.key.isStr name' with
        | true => rfl
        | false => exact ih
  unfold getL
  rw [putL_any]
  revert f
  cases (putL name hsh (.str name t) v es).find? (·.key.isStr name') <;> cases es.find? (·.key.isStr name') <;> simp
theorem putL_length {name : Str} {hsh : Int} {k v : Value} : ∀ {es : List DictEntry}, (putL name hsh k v es).length ≤ es.length + 1
  | [] => by simp [putL]
  | e :: r => by
    unfold putL
    split
    · simp
    · have := putL_length (name := name) (hsh := hsh) (k := k) (v := v) (es := r); simp only [List.length_cons]; omega
theorem putL_le {name : Str} {hsh : Int} {k v : Value} {es : List DictEntry} (h : es.length ≤ 60) : (putL name hsh k v es).length ≤ 1000 := Nat.le_trans putL_length (by omega)
theorem getL_some {name : Str} {es : List DictEntry} {v : Option Value} (h : getL name es = some v) : (getL name es).isSome = true := by rw [h]; rfl
/-- es' is es with name set to v -/
def Put (name : Str) (v : Value) (es es' : List DictEntry) : Prop := ∃ hsh t, es' = putL name hsh (.str name t) v es
theorem Put.self {name : Str} {v : Value} {es es' : List DictEntry} (h : Put name v es es') : getL name es' = some (some v) := by obtain ⟨a, b, rfl⟩ := h; exact getL_put_self
theorem Put.other {name name' : Str} {v : Value} {es es' : List DictEntry} (h : Put name v es es') (hne : name' ≠ name) : getL name' es' = getL name' es := by obtain ⟨a, b, rfl⟩ := h; exact getL_put_ne hne
theorem Put.len {name : Str} {v : Value} {es es' : List DictEntry} (h : Put name v es es') : es'.length ≤ es.length + 1 := by obtain ⟨a, b, rfl⟩ := h; exact putL_length
/-- the addresses of a ledger's part lie below B -/
def Under (B : Nat) (l : List (Addr × Obj)) : Prop := ∀ p ∈ l, @LT.lt Nat _ p.1 B
theorem Under.ne {B : Nat} {d : Addr} {l : List (Addr × Obj)} (h : Under B l) (hd : @LE.le Nat _ B d) : ∀ p ∈ l, p.1 ≠ d := fun p hp => Nat.ne_of_lt (Nat.lt_of_lt_of_le (h p hp) hd)
theorem ne_old {h : Heap} {a b : Addr} {o : Obj} (ha : h.get? a = some o) (hb : @LE.le Nat _ h.objs.size b) : @Ne Nat b a := fun e => absurd (Heap.lt_size ha) (Nat.not_lt.mpr (e ▸ hb))
theorem ne_cls {h : Heap} {a b : Addr} {o o' : Obj} (ha : h.get? a = some o) (hb : h.get? b = some o') (hc : o.cls ≠ o'.cls) : @Ne Nat a b := fun e => by
  have e' : a = b := e
  rw [e', hb] at ha; cases ha; exact hc rfl
theorem IsObj.ne {h : Heap} {x C d : Addr} {es : List DictEntry} {n : Nat} (o : IsObj h x C d es n) : @Ne Nat x d := ne_cls o.obj o.dct (fun e => nomatch e)
theorem allLt_mem {d : Nat} {l : List (Addr × Obj)} : AllLt d l → ∀ p ∈ l, @LT.lt Nat _ p.1 d := by
  induction l with
  | nil => intro _ p hp; cases hp
  | cons a r ih =>
    intro h p hp
    rcases List.mem_cons.mp hp with rfl | hp
    · exact h.1
    · exact ih h.2 p hp
theorem ltN' {a b : Nat} (h : a ≤ b) : a ≤ b := h
end Mine
-- Flight
namespace Mine
/-- an exception on its way, whose traceback's head is T, and that was raised in no handler -/
structure TrC (h base : Heap) (e : Addr) (cls fl : Value) : Prop where
  ex : ∃ oe vs T oT ts, h.get? e = some oe ∧ oe.cls = cls ∧ oe.data = .fields vs ∧ vs[1]? = some (.ref T) ∧ vs[2]? = some .none ∧ base.get? T = none ∧ T ≠ e ∧ h.get? T = some oT ∧ oT.data = .fields ts ∧ ts[3]? = some fl
structure FlyC (base : Heap) (l : List Env) (e : Addr) (cls fl : Value) (h : Heap) : Prop where
  st : base.StaysIn h
  nb : base.get? e = none
  ff : h.FunFrames base l
  tr : TrC h base e cls fl
theorem FlyC.there {base h : Heap} {l : List Env} {e : Addr} {cls fl : Value} (x : FlyC base l e cls fl h) : ∃ ob, h.get? e = some ob ∧ ob.cls = cls := by
  obtain ⟨oe, _, _, _, _, he, hc, _⟩ := x.tr.ex
  exact ⟨oe, he, hc⟩
theorem FlyC.base {base B h : Heap} {l : List Env} {e : Addr} {cls fl : Value} (k : base.StaysIn B) (x : FlyC B l e cls fl h) : FlyC base l e cls fl h := by
  obtain ⟨oe, vs, T, oT, ts, a1, a2, a3, a4, a5, a6, a7⟩ := x.tr.ex
  exact ⟨fun b o q => x.st b o (k b o q), fresh_of_stays k x.nb, funFrames_base k x.ff, ⟨oe, vs, T, oT, ts, a1, a2, a3, a4, a5, fresh_of_stays k a6, a7⟩⟩
section
variable {M : Model} {A : Around} {E : Value → Shared → Prop} {s : Shared} {base : Heap} {l outer : List Env} {env : Env} {L e : Addr} {cls fl : Value} {Q : Unit → Shared → Prop}
/-- the head's mark is taken off -/
theorem land_C (x : FlyC base l e cls fl s.heap) (hQ : ∀ h', FlyC base l e cls .none h' → s.heap.UpToSlots h' → Q () { s with heap := h' }) : wpAny M A (setFlight (.ref e) none) Q E s := by
  obtain ⟨oe, vs, T, oT, ts, he, hcls, hd, h1, h2, hnT, hTe, hT, hdT, h3⟩ := x.tr.ex
  have hsz3 : 3 < ts.size := (Array.getElem?_eq_some_iff.mp h3).1
  unfold setFlight
  refine wpAny_bind (wpAny_field he hd h1 ?_)
  rw [if_pos (show (Value.ref T != Value.none) = true from by simp)]
  refine wpAny_setField hT hdT hsz3 ?_
  have nrec : ∀ b o, s.heap.get? b = some o → (∀ vs, o.data ≠ .fields vs) → b ≠ T := fun b o hb hn q => by
    rw [q, hT] at hb; cases hb; exact hn ts hdT
  have other : ∀ b, b ≠ T → (s.heap.update T (Obj.mapFields (·.setIfInBounds 3 ((none : Option Addr).elim Value.none fun f => rawInt f)))).get? b = s.heap.get? b := fun b hb => Heap.get?_update_other _ _ (Ne.symm hb)
  refine hQ _ ⟨fun b o hb => (other b fun q => by rw [q, hnT] at hb; cases hb).trans (x.st b o hb), x.nb, x.ff.of_keeps fun b o hb hn => ⟨o, (other b (nrec b o hb hn)).trans hb, rfl⟩, ?_⟩ fun b o hb hn => ⟨o.slots, (other b (nrec b o hb hn)).trans hb⟩
  exact ⟨oe, vs, T, _, _, (other e (Ne.symm hTe)).trans he, hcls, hd, h1, h2, hnT, hTe, Heap.get?_update_self _ hT (Obj.isFreed_of_fields (Obj.data_mapFields hdT _)), Obj.data_mapFields hdT _, by simp [hsz3]⟩
/-- a new head for the traceback -/
theorem entry_C {oe : Obj} {vs : Array Value} {head : Value} {hadNext : Bool} (hA : A.frames = some (env :: outer)) (hf : env.frame = some L) (hff : s.heap.FunFrames base (env :: outer)) (hst : base.StaysIn s.heap) (hnb : base.get? e = none)
    (he : s.heap.get? e = some oe) (hd : oe.data = .fields vs) (h1 : 1 < vs.size) (h2 : vs[2]? = some .none)
    (hQ : ∀ h', FlyC base (env :: outer) e oe.cls (rawInt L) h' → s.heap.UpToSlots h' → Q () { s with heap := h' }) :
    wpAny M A (do let a ← frameOf env; let pl ← entryPlaceOf L hadNext; let b ← EntryCells.newEntry head a .none (rawInt L) .none pl; setField (.ref e) 1 b) Q E s := by
  have hout : e ∉ (env :: outer).filterMap (·.frame) := fun hm => by
    obtain ⟨_, o, ho, hn⟩ := hff.mem hm
    rw [he] at ho; cases ho; exact hn vs hd
  refine wpAny_bind (wpAny_frameOf_fun hA hff hf fun h' hs => ?_)
  refine wpAny_bind (wpAny_entryPlaceOf fun pl hpl => ?_)
  unfold EntryCells.newEntry newFields
  refine wpAny_bind (wpAny_newObj_type ?_ (hpl.sizeOk5 _ _ _ _ _))
  have st' : base.StaysIn h' := fun b o hb => (hs.2.1 b fun hm => by rw [(hff.mem hm).1] at hb; cases hb).trans (hst b o hb)
  have he' : h'.get? e = some oe := (hs.2.1 e hout).trans he
  generalize hO : ({ cls := .type "traceback", dict := none, data := .fields ([head, .ref L, .none, rawInt L, .none] ++ (if pl.isEmpty then List.replicate 6 Value.none else pl)).toArray } : Obj) = O
  have hO3 : ∃ ts, O.data = .fields ts ∧ ts[3]? = some (rawInt L) := ⟨_, by rw [← hO], by first | (simp; done) | (rcases hpl with rfl | ⟨_, _, _, _, _, _, _, rfl⟩ <;> simp)⟩
  have he2 := Heap.get?_push_of_some (h := h') O he'
  have hTe : h'.objs.size ≠ e := Nat.ne_of_gt (Heap.lt_size he')
  refine wpAny_setField he2 hd h1 ?_
  have hd3 := Obj.data_mapFields hd (·.setIfInBounds 1 (Value.ref h'.objs.size))
  have kp : ∀ b o, b ≠ e → h'.get? b = some o → ((h'.push O).update e (Obj.mapFields (·.setIfInBounds 1 (Value.ref h'.objs.size)))).get? b = some o := fun b o hb q => by
    rw [Heap.get?_update_other _ _ (Ne.symm hb)]
    exact Heap.get?_push_of_some _ q
  have nrec : ∀ b o, s.heap.get? b = some o → (∀ vs, o.data ≠ .fields vs) → b ≠ e := fun b o hb hn q => by
    rw [q, he] at hb; cases hb; exact hn vs hd
  obtain ⟨ts, ht1, ht3⟩ := hO3
  refine hQ _ ⟨fun b o hb => kp b o (fun q => by rw [q, hnb] at hb; cases hb) (st' b o hb), hnb, hff.of_keeps fun b o hb hn => ?_, ⟨_, _, h'.objs.size, O, ts, Heap.get?_update_self _ he2 (Obj.isFreed_of_fields hd3), Obj.cls_mapFields _ _, hd3, by simp [h1], ?_, ?_, hTe, ?_, ht1, ht3⟩⟩ fun b o hb hn => ?_
  · obtain ⟨sl, q⟩ := hs.2.2 b o hb
    exact ⟨_, kp b _ (nrec b o hb hn) q, rfl⟩
  · rw [Array.getElem?_setIfInBounds_ne (by decide)]; exact h2
  · exact st'.fresh
  · rw [Heap.get?_update_other _ _ (Ne.symm hTe), ← hO]
    exact Heap.get?_push_size h' rfl
  · obtain ⟨sl, q⟩ := hs.2.2 b o hb
    exact ⟨sl, kp b _ (nrec b o hb hn) q⟩
/-- the frame is noted: the exception was raised here -/
theorem note_first {oe : Obj} {vs : Array Value} (hA : A.frames = some (env :: outer)) (hf : env.frame = some L) (hff : s.heap.FunFrames base (env :: outer)) (hst : base.StaysIn s.heap) (hnb : base.get? e = none)
    (he : s.heap.get? e = some oe) (hd : oe.data = .fields vs) (h1 : vs[1]? = some .none) (h2 : vs[2]? = some .none)
    (hQ : ∀ h', FlyC base (env :: outer) e oe.cls (rawInt L) h' → s.heap.UpToSlots h' → Q () { s with heap := h' }) : wpAny M A (noteFrame (.ref e) env) Q E s := by
  unfold noteFrame
  simp only [hf]
  refine wpAny_bind (wpAny_field he hd h1 ?_)
  rw [if_neg (by decide)]
  exact entry_C hA hf hff hst hnb he hd (Array.getElem?_eq_some_iff.mp h1).1 h2 hQ
/-- the frame is noted: the exception came here -/
theorem note_next (hA : A.frames = some (env :: outer)) (hf : env.frame = some L) (x : FlyC base (env :: outer) e cls .none s.heap)
    (hQ : ∀ h', FlyC base (env :: outer) e cls (rawInt L) h' → s.heap.UpToSlots h' → Q () { s with heap := h' }) : wpAny M A (noteFrame (.ref e) env) Q E s := by
  obtain ⟨oe, vs, T, oT, ts, he, hcls, hd, h1, h2, hnT, hTe, hT, hdT, h3⟩ := x.tr.ex
  subst hcls
  unfold noteFrame
  simp only [hf]
  refine wpAny_bind (wpAny_field he hd h1 ?_)
  rw [if_pos (show (Value.ref T != Value.none) = true from by simp)]
  refine wpAny_bind (wpAny_field hT hdT h3 ?_)
  rw [if_neg (show ¬ ((Value.none == rawInt L) = true) from by simp [rawInt])]
  refine wpAny_bind (wpAny_setField hT hdT (Array.getElem?_eq_some_iff.mp h3).1 ?_)
  have nrec : ∀ b o, s.heap.get? b = some o → (∀ vs, o.data ≠ .fields vs) → b ≠ T := fun b o hb hn q => by
    rw [q, hT] at hb; cases hb; exact hn ts hdT
  have other : ∀ b, b ≠ T → (s.heap.update T (Obj.mapFields (·.setIfInBounds 3 Value.none))).get? b = s.heap.get? b := fun b hb => Heap.get?_update_other _ _ (Ne.symm hb)
  refine entry_C hA hf (x.ff.of_keeps fun b o hb hn => ⟨o, (other b (nrec b o hb hn)).trans hb, rfl⟩) (fun b o hb => (other b fun q => by rw [q, hnT] at hb; cases hb).trans (x.st b o hb)) x.nb ((other e (Ne.symm hTe)).trans he) hd (Array.getElem?_eq_some_iff.mp h1).1 h2 fun h' f u => hQ h' f fun b o hb hn => ?_
  exact u b o ((other b (nrec b o hb hn)).trans hb) hn
theorem leave_first {oe : Obj} {vs : Array Value} (hA : A.frames = some (env :: outer)) (hf : env.frame = some L) (hff : s.heap.FunFrames base (env :: outer)) (hst : base.StaysIn s.heap) (hnb : base.get? e = none)
    (he : s.heap.get? e = some oe) (hd : oe.data = .fields vs) (h1 : vs[1]? = some .none) (h2 : vs[2]? = some .none)
    (hQ : ∀ h', FlyC base outer e oe.cls .none h' → s.heap.UpToSlots h' → Q () { s with heap := h' }) : wpAny M A (leaving env (.ref e)) Q E s := by
  unfold leaving
  exact wpAny_bind (note_first hA hf hff hst hnb he hd h1 h2 fun h' f u => land_C f fun h'' f' u' => hQ h'' ⟨f'.st, f'.nb, f'.ff.2.2, f'.tr⟩ (u.trans u'))
theorem leave_next (hA : A.frames = some (env :: outer)) (hf : env.frame = some L) (x : FlyC base (env :: outer) e cls .none s.heap)
    (hQ : ∀ h', FlyC base outer e cls .none h' → s.heap.UpToSlots h' → Q () { s with heap := h' }) : wpAny M A (leaving env (.ref e)) Q E s := by
  unfold leaving
  exact wpAny_bind (note_next hA hf x fun h' f u => land_C f fun h'' f' u' => hQ h'' ⟨f'.st, f'.nb, f'.ff.2.2, f'.tr⟩ (u.trans u'))
end
/-- an exception from a frame above, that was raised in no handler; the ledger stands -/
def RaisedC (base : Heap) (l : List Env) (e : Addr) (cls : Value) (news : List (Addr × Obj)) (h : Heap) : Prop :=
  ∃ B, base.StaysIn B ∧ (∀ q ∈ news, B.get? q.1 = some q.2 ∧ base.get? q.1 = none) ∧ FlyC B l e cls .none h
section
variable {M : Model} {A A₀ : Around} {E : Value → Shared → Prop} {s' : Shared} {base g g₂ h h₀ : Heap} {outer : List Env} {L L₀ a e : Addr} {m m₀ : Str → Option Value} {name : Str} {scope : Scope} {cd : Value} {Q : Unit → Shared → Prop} {env : Env} {news : List (Addr × Obj)}
theorem leave_onC {cls : Value} (K : Below A base outer g) (F : Fr g L g₂ m) (R : RaisedC base (envOf name scope L a cd :: outer) e cls news s'.heap) (hsm : g₂.UpToSlots s'.heap)
    (hQ : ∀ h', RaisedC base outer e cls news h' → g.UpToSlots h' → Q () { s' with heap := h' }) :
    wpAny M (A.deeper (envOf name scope L a cd)) (leaving (envOf name scope L a cd) (.ref e)) Q E s' := by
  obtain ⟨Bh, hB, hl, hfl⟩ := R
  exact leave_next (Around.frames_deeper K.stack) rfl hfl fun h' x1 x2 => hQ h' ⟨Bh, hB, hl, x1⟩ ((Heap.UpToSlots.of_keeps F.keep).trans (hsm.trans x2))
/-- a raise leaves the callee's frame: whatever the caller's ledger held stands -/
theorem leave_mine {cls : String} (B₀ : Below A₀ base outer h₀) (hf : env.frame = some L₀) (K : Below A base (env :: outer) g) (hx : Heap.NewExc h s'.heap e cls) (F : Fr g L h m)
    (hQ : ∀ h', (∀ news : List (Addr × Obj), (∀ p ∈ news, h.get? p.1 = some p.2 ∧ p.1 ≠ L₀ ∧ p.1 ≠ L ∧ h₀.get? p.1 = none) → RaisedC base (env :: outer) e (.type cls) news h') → g.UpToSlots h' → Q () { s' with heap := h' }) (hk : scope.kind = .function := by rfl) :
    wpAny M (A.deeper (envOf name scope L a cd)) (leaving (envOf name scope L a cd) (.ref e)) Q E s' := by
  have K' := K.push (name := name) (a := a) (cd := cd) F hk
  have hin : ∀ env' ∈ (envOf name scope L a cd :: env :: outer), ∀ b, env'.frame = some b → b ∈ (envOf name scope L a cd :: env :: outer).filterMap (·.frame) := fun env' he b hb => List.mem_filterMap.mpr ⟨env', he, hb⟩
  have st : base.StaysIn (hideAll h ((envOf name scope L a cd :: env :: outer).filterMap (·.frame))) := fun b o q => hideAll_get _ (K'.stays b o q) fun hm => by
    rw [(K'.frames.mem hm).1] at q; cases q
  have hl : ∀ news : List (Addr × Obj), (∀ p ∈ news, h.get? p.1 = some p.2 ∧ p.1 ≠ L₀ ∧ p.1 ≠ L ∧ h₀.get? p.1 = none) → ∀ q ∈ news, (hideAll h ((envOf name scope L a cd :: env :: outer).filterMap (·.frame))).get? q.1 = some q.2 ∧ base.get? q.1 = none := fun news N q hq => by
    refine ⟨hideAll_get _ (N q hq).1 fun hm => ?_, fresh_of_stays B₀.stays (N q hq).2.2.2⟩
    obtain ⟨env', he, hf'⟩ := List.mem_filterMap.mp hm
    rcases List.mem_cons.mp he with rfl | he
    · exact (N q hq).2.2.1 (Option.some.inj hf').symm
    rcases List.mem_cons.mp he with rfl | he
    · exact (N q hq).2.1 (Option.some.inj (hf'.symm.trans hf))
    · obtain ⟨o, ho, _⟩ := (B₀.frames.mem (List.mem_filterMap.mpr ⟨env', he, hf'⟩)).2
      rw [(N q hq).2.2.2] at ho; cases ho
  obtain ⟨ob, tp, he, hcls, hd⟩ := hx.there
  have hen : (hideAll h ((envOf name scope L a cd :: env :: outer).filterMap (·.frame))).get? e = none := by
    cases q : (hideAll h ((envOf name scope L a cd :: env :: outer).filterMap (·.frame))).get? e with
    | none => rfl
    | some o => have := of_hideAll _ q; rw [hx.new] at this; cases this
  refine leave_first K'.stack rfl ((funFrames_hide K'.frames hin).of_keeps fun b o hb _ => ⟨o, hx.keeps b o hb, rfl⟩) (fun b o hb => hx.keeps b o (of_hideAll _ hb)) hen he hd rfl rfl fun h' f u => ?_
  exact hQ h' (fun news N => ⟨_, st, hl news N, by rw [← hcls]; exact f⟩) (((Heap.UpToSlots.of_keeps F.keep).trans (Heap.UpToSlots.of_keeps hx.keeps)).trans u)
end
end Mine
-- TupH
namespace Mine
theorem plain_unchain : plainId "proto.unchain" = true := by decide +kernel
theorem entry_unchain : entryFor table "proto.unchain" = some Builtin.«proto.unchain» := entryFor_of_fast (by kernel_rfl)
/-- an exception that has no context -/
def CtxNone (h : Heap) (e : Addr) : Prop := ∃ o vs, h.get? e = some o ∧ o.data = .fields vs ∧ vs[2]? = some .none
theorem FlyC.ctx {base h : Heap} {l : List Env} {e : Addr} {cls fl : Value} (x : FlyC base l e cls fl h) : CtxNone h e := by
  obtain ⟨oe, vs, _, _, _, he, _, hd, _, h2, _⟩ := x.tr.ex
  exact ⟨oe, vs, he, hd, h2⟩
theorem CtxNone.keeps {h h' : Heap} {e b : Addr} (c : CtxNone h e) (k : Heap.ExtBut b h h') (hb : e ≠ b) : CtxNone h' e := by
  obtain ⟨o, vs, a1, a2⟩ := c
  exact ⟨o, vs, k e o hb a1, a2⟩
theorem CtxNone.push {h : Heap} {e : Addr} (c : CtxNone h e) (o : Obj) : CtxNone (h.push o) e := by
  obtain ⟨o', vs, a1, a2⟩ := c
  exact ⟨o', vs, Heap.get?_push_of_some _ a1, a2⟩
section
variable {prog : Program} {w : World} {A : Around} {E : Value → Shared → Prop} {s : Shared} {e : Addr}
theorem unchain_none {a : Addr} {Q : Value → Shared → Prop} (c : CtxNone s.heap e) (hq : Q .none s) :
    wpAny (model prog w) A (runValue (.builtin "proto.unchain" ⟨[.ref a, .ref e, .ref e, .bool false], []⟩)) Q E s := by
  obtain ⟨o, vs, ho, hd, h2⟩ := c
  refine wpAny_runValue (codeAny_builtin entry_unchain ?_)
  rw [Around.under_plainId plain_unchain _]
  show wpAny _ A.in1 (field (.ref e) 2 >>= _) _ _ s
  refine wpAny_bind (wpAny_field ho hd h2 ?_)
  exact wpAny_pure hq
theorem next_endH {it t : Addr} {i : Nat} {items : Array Value} {Q : Option Value → Shared → Prop} (hh : A.handled = some (.ref e)) (c : CtxNone s.heap e) (hne : e ≠ it)
    (hit : IsTupIter s.heap it t i) (ht : IsTup s.heap t items) (hx : items[i]? = none)
    (hQ : ∀ h', Heap.ExtBut it s.heap h' → Q none { s with heap := h' }) : wpAny (model prog w) A (pyNext (.ref it)) Q E s := by
  obtain ⟨o, ho, hc, hd⟩ := id hit
  obtain ⟨ol, hol, _, nl, hdl⟩ := ht
  unfold pyNext
  refine wpAny_bind (wpAny_attempt (wpAny_callSpecial?_slot (name := Str.ofString "__next__") hit.typeIs slot_tupleiter_next
    (wpAny_call_entry slot_tupleiter_next hit.typeIs entry_tupleiter_next ?_ (args_tupleiter_next _))))
  show wpAny _ _ (field (.ref it) 0 >>= _) _ _ s
  refine wpAny_bind (wpAny_field ho hd (x := .ref t) rfl ?_)
  show wpAny _ _ (if (Value.ref t == Value.none) = true then _ else _) _ _ s
  rw [if_neg (show ¬ ((Value.ref t == Value.none) = true) from Bool.false_ne_true)]
  show wpAny _ _ (field (.ref it) 1 >>= _) _ _ s
  refine wpAny_bind (wpAny_field ho hd (x := .int i 0) rfl ?_)
  show wpAny _ _ (seqItems? (.ref t) >>= _) _ _ s
  refine wpAny_bind (wpAny_seqItems hol hdl ?_)
  simp only [Int.toNat_natCast, hx]
  refine wpAny_bind (wpAny_rule (wpAny_bind (wpAny_setField ho hd (by simp) ?_)))
  show wpAny _ _ (newExc (.type "StopIteration") [] >>= _) _ _ _
  refine wpAny_bind ?_
  simp only [newExc, newTuple]
  refine wpAny_bind (wpAny_newObj_type ?_ (by size_fits))
  refine wpAny_bind (m := firstArgMember _ _) (wpAny_of_eq (a := Value.none) (by first | rfl | (simp only [firstArgMember]; rfl)) ?_)
  refine wpAny_newObj_type ?_ (by size_fits)
  simp only [raiseNew]
  refine wpAny_bind (wpAny_handled ?_)
  first | rw [show A.in1.handled = some (.ref e) from hh] | rw [hh]
  have ke : ∀ b ob, b ≠ it → s.heap.get? b = some ob → (s.heap.update it (Obj.mapFields fun x => x.setIfInBounds 0 Value.none)).get? b = some ob := fun b ob hb q => (Heap.get?_update_other _ _ (Ne.symm hb)).trans q
  have he1 : CtxNone (s.heap.update it (Obj.mapFields fun x => x.setIfInBounds 0 Value.none)) e := by
    obtain ⟨ob, vs, a1, a2⟩ := c
    exact ⟨ob, vs, ke e ob hne a1, a2⟩
  generalize s.heap.update it (Obj.mapFields fun x => x.setIfInBounds 0 Value.none) = H1 at ke he1
  have he2 := he1.push { cls := Value.type "tuple", data := Data.seq #[] }
  have ke2 : ∀ b ob, b ≠ it → s.heap.get? b = some ob → (H1.push { cls := Value.type "tuple", data := Data.seq #[] }).get? b = some ob := fun b ob hb q => Heap.get?_push_of_some _ (ke b ob hb q)
  generalize H1.push { cls := Value.type "tuple", data := Data.seq #[] } = H2 at he2 ke2
  generalize hO : ({ cls := Value.type "StopIteration", data := Data.fields (#[Value.ref H1.objs.size, Value.none, Value.none, Value.none, Value.bool false, Value.none] ++ ownMembersOf (Value.type "StopIteration") []) } : Obj) = O
  have hOd : ∃ vs, O.data = .fields vs ∧ 2 < vs.size := ⟨_, by rw [← hO], by rw [Array.size_append]; simp; omega⟩
  have hOc : O.cls = .type "StopIteration" := by rw [← hO]
  obtain ⟨vs, hv, hsz⟩ := hOd
  have hlt : e < H2.objs.size := by
    obtain ⟨ob, _, a1, _⟩ := he2
    exact Heap.lt_size a1
  have hne2 : (Value.ref e != Value.ref H2.objs.size) = true := by
    have : e ≠ H2.objs.size := Nat.ne_of_lt hlt
    simp [this]
  dsimp only
  rw [if_pos hne2]
  refine wpAny_bind (wpAny_holding (unchain_none (he2.push O) ?_))
  have hg : (H2.push O).get? H2.objs.size = some O := Heap.get?_push_size _ (Obj.isFreed_of_fields hv)
  refine wpAny_bind (show wpAny _ _ (setField (.ref H2.objs.size) 2 (.ref e)) _ _ _ from wpAny_setField hg hv hsz (wpAny_throw ?_))
  have hg2 := Heap.get?_update_self (Obj.mapFields (·.setIfInBounds 2 (Value.ref e))) hg (Obj.isFreed_of_fields (Obj.data_mapFields hv _))
  refine wpAny_bind (wpAny_isInstance (T := "StopIteration") (b := true) ⟨_, hg2, (Obj.cls_mapFields _ _).trans hOc⟩ isSubtype_stop ?_)
  refine wpAny_pure (hQ _ fun b ob hb q => ?_)
  have q2 := ke2 b ob hb q
  exact (Heap.get?_update_other _ _ (Nat.ne_of_gt (Heap.lt_size q2))).trans (Heap.get?_push_of_some _ q2)
theorem unpackItemsH {t : Addr} {items : Array Value} {Q : List Value → Shared → Prop} (hh : A.handled = some (.ref e)) (c : CtxNone s.heap e) (ht : IsTup s.heap t items)
    (hQ : ∀ h', Heap.ExtBut s.heap.objs.size s.heap h' → Q items.toList { s with heap := h' }) : wpAny (model prog w) A (unpackItems (.ref t) items.size none) Q E s := by
  have hlt : t ≠ s.heap.objs.size := by obtain ⟨o, ho, _⟩ := ht; exact Nat.ne_of_lt (Heap.lt_size ho)
  have hle : e ≠ s.heap.objs.size := by obtain ⟨o, _, ho, _⟩ := c; exact Nat.ne_of_lt (Heap.lt_size ho)
  unfold unpackItems
  refine wpAny_bind ?_
  unfold notIterableAtAll
  refine wpAny_bind (wpAny_specialOf ht.typeIs slot_tuple_iter.lookup ?_)
  refine wpAny_pure ?_
  simp only [Bool.false_eq_true, if_false]
  refine wpAny_bind (wpAny_holding (iter_tuple ht ?_))
  refine wpAny_bind (wpAny_holding (draw_tuple hlt items.size 0 _ _ ⟨_, Heap.get?_push_size _ rfl, rfl, rfl⟩ (ht.push _) (by omega) fun h1 hit hs => ?_))
  have hall : (items.toList.drop 0).take items.size = items.toList := by
    rw [List.drop_zero]; exact List.take_of_length_le (by simp)
  rw [hall, if_neg (by simp)]
  refine wpAny_bind (wpAny_holding (next_endH hh ((c.push _).keeps hs.extBut hle) hle hit ((ht.push _).extBut hs.extBut hlt) (by simp) fun h2 he => ?_))
  simp only [Option.isSome_none, Bool.false_eq_true, if_false]
  exact wpAny_pure (hQ h2 fun b o hb q => he b o hb (hs.extBut b o hb (Heap.get?_push_of_some _ q)))
/-- a tuple is taken apart in a handler -/
theorem assign_tupleH {env : Env} {elts : List Expr} {k} {pos : Pos} {t L : Addr} {items : Array Value} {h₀ : Heap} {m : Str → Option Value} {news : List (Addr × Obj)} {Q : Unit → Shared → Prop} (F : Fr h₀ L s.heap m) (N : News h₀ L s.heap news)
    (hh : A.handled = some (.ref e)) (c : CtxNone s.heap e) (ht : IsTup s.heap t items) (hn : (assignEach elts env).length = items.size) (hstar : (assignEach elts env).findIdx? (·.1) = none)
    (h : ∀ h', Fr h₀ L h' m → News h₀ L h' news → wpAny (model prog w) A (assignInOrder ((assignEach elts env).map (·.2)) items.toList) Q E { s with heap := h' }) :
    wpAny (model prog w) A (assign (.Tuple elts k pos) env (.ref t)) Q E s := by
  rw [assign_Tuple]
  refine wpAny_bind (wpAny_standAt ?_)
  unfold unpack
  rw [hn, hstar]
  exact wpAny_bind (wpAny_holding (unpackItemsH hh c ht fun h' he => h h' (F.extBut he (Nat.le_refl _)) (N.extBut he (Nat.le_refl _))))
end
end Mine
-- Comp
namespace Mine
open LCg
section
variable {prog : Program} {w : World} {A : Around} {E : Value → Shared → Prop} {s : Shared} {h₀ : Heap} {L : Addr} {m : Str → Option Value} {env : Env}
/-- the walk halts here -/
def CompStop (prog : Program) (w : World) (A : Around) (h₀ : Heap) (L : Addr) (m : Str → Option Value) (env : Env) (elt : Expr) (x : Str) (scope : Scope) (cl : List (Str × Addr)) (Fin : Shared → List Value → List (Addr × Obj) → Prop) (xv : Value) (s₁ : Shared) : Prop :=
  CompSrc prog w A h₀ L m env elt x scope cl Fin xv s₁
theorem ListComp_V {elt iter : Expr} {x : Str} {px : Pos} {scope : Scope} {cl : List (Str × Addr)} {pos : Pos} {Q : Value → Shared → Prop} (F₀ : Fr h₀ L s.heap m)
    (hclos : closureFor scope env = pure cl) (hcell : ∀ y ∈ scope.names, y.2 ≠ .cell) (hkind : scope.kind = .function)
    (hnames : ∀ y ∈ scope.names, y.2 = .local → scope.names.lookup y.1 = some .local) (hx : scope.names.lookup x = some .local)
    (h : wpAny (model prog w) A (eval iter env) (CompStop prog w A h₀ L m env elt x scope cl (fun s₂ => FinE h₀ L m s₂ Q)) E s)
    (hs : ∀ x, foldedSetIterable iter env x = pure x := by intro _; rfl) :
    wpAny (model prog w) A (eval (.ListComp elt [⟨.Name x px, iter, [], 0⟩] scope pos) env) Q E s :=
  ListComp_U F₀ hclos hcell hkind hnames hx h hs
theorem Assign_ListComp_V {elt iter : Expr} {x y : Str} {px py : Pos} {scope : Scope} {cl : List (Str × Addr)} {pos spos : Pos} {Q : Flow → Shared → Prop} (F₀ : Fr h₀ L s.heap m) (hLe : env.locals = L)
    (hsw : swapsWith (.ListComp elt [⟨.Name x px, iter, [], 0⟩] scope pos) (some (.Name y py)) spos.line env = pure true)
    (hclos : closureFor scope env = pure cl) (hcell : ∀ z ∈ scope.names, z.2 ≠ .cell) (hkind : scope.kind = .function)
    (hnames : ∀ z ∈ scope.names, z.2 = .local → scope.names.lookup z.1 = some .local) (hx : scope.names.lookup x = some .local)
    (hy : env.kindOf y = some .local) (hp : (env.scope.kind == .class || (env.scope.kind == .module && env.locals != env.globals)) = false)
    (h : wpAny (model prog w) A (eval iter env) (CompStop prog w A h₀ L m env elt x scope cl (fun s₂ => FinA h₀ L m s₂ y Q)) E s)
    (hs : ∀ x, foldedSetIterable iter env x = pure x := by intro _; rfl) :
    wpAny (model prog w) A (exec (.Assign [.Name y py] (.ListComp elt [⟨.Name x px, iter, [], 0⟩] scope pos) spos) env) Q E s :=
  Assign_ListComp_U F₀ hLe hsw hclos hcell hkind hnames hx hy hp h hs

/-- the turn's end: the walk halts here -/
def TurnStop (h₀ : Heap) (L : Addr) (m : Str → Option Value) (s₁ : Shared) (I : Addr) (oI : Obj) (C : Addr) (oC : Obj) (D : Addr) (oD : Obj) (S : List (Addr × Obj) → Prop) (rest : Value → List (Addr × Obj) → Prop) (y : Value) (s₂ : Shared) : Prop :=
  CompEnd h₀ L m s₁ I oI C oC D oD S rest y s₂
theorem comp_ind {elt : Expr} {x : Str} {scope : Scope} {cl : List (Str × Addr)} {S : List (Addr × Obj) → Prop} {P : Nat → Value → Prop} {Fin : List Value → List (Addr × Obj) → Prop}
    (Inv : Nat → List Value → List (Addr × Obj) → Prop) (n : Nat)
    (turn : ∀ i ys news, i < n → Inv i ys news → ∀ v I oI C oC D m₂ h tk (E' : Value → Shared → Prop), P i v → NsObj oC m₂ → m₂ x = some v → Fr h₀ L h m → News h₀ L h ((I, oI) :: (C, oC) :: (D, lst ys) :: news) → Off3 I C D news → ((@Ne Nat I C) ∧ (@Ne Nat I D) ∧ (@Ne Nat C D)) →
      wpAny (model prog w) A (eval elt (compEnvC scope cl C env)) (TurnStop h₀ L m { s with heap := h, toks := tk } I oI C oC D (lst ys) S (fun y news' => Inv (i + 1) (ys ++ [y]) news')) E' { s with heap := h, toks := tk })
    (fin : ∀ ys news, Inv n ys news → Fin ys news) :
    ∀ k i ys news, i + k = n → Inv i ys news → CompRest prog w A h₀ L m env elt x scope cl s S P Fin k i ys news := by
  intro k
  induction k with
  | zero => intro i ys news hi hI; obtain rfl : i = n := by omega
            exact CompRest.zero (fin ys news hI)
  | succ k ih =>
    intro i ys news hi hI
    refine CompRest.succ fun v I oI C oC D m₂ h tk E' hP hC hx F N off ne => ?_
    refine wpAny_mono (turn i ys news (by omega) hI v I oI C oC D m₂ h tk E' hP hC hx F N off ne) (fun y s₂ p => ?_) fun _ _ e => e
    obtain ⟨h', tk', news', e, F', N', off', hS, hI'⟩ := p
    exact ⟨h', tk', news', e, F', N', off', hS, ih (i + 1) _ news' (by omega) hI'⟩
theorem turn_go {I : Addr} {oI : Obj} {C : Addr} {oC : Obj} {D : Addr} {oD : Obj} {S : List (Addr × Obj) → Prop} {rest : Value → List (Addr × Obj) → Prop} {y : Value} {news' : List (Addr × Obj)} {h' : Heap} {gg : Array GenState} {d : Drawn} {tk : Nat} {os : OsState} (F : Fr h₀ L h' m)
    (N : News h₀ L h' ((I, oI) :: (C, oC) :: (D, oD) :: news')) (off : ∀ p ∈ news', p.1 ≠ I ∧ p.1 ≠ C ∧ p.1 ≠ D) (hS : S news') (hr : rest y news') (hs : s = ⟨s.heap, gg, d, s.toks, os⟩) : TurnStop h₀ L m s I oI C oC D oD S rest y ⟨h', gg, d, tk, os⟩ := by
  have e : (⟨h', gg, d, tk, os⟩ : Shared) = { s with heap := h', toks := tk } := by rw [hs]
  exact ⟨h', tk, news', e, F, N, Off3.of off, hS, hr⟩
/-- a loop: the walk halts here -/
def LoopStop (prog : Program) (w : World) (A : Around) (h₀ : Heap) (env : Env) (x : Str) (body : List Stmt) (Q : Flow → Shared → Prop) (E : Value → Shared → Prop) (it : Value) (s₂ : Shared) : Prop := LoopAtV prog w A h₀ env x body Q E it s₂
theorem For_S {x : Str} {body : List Stmt} {Q : Flow → Shared → Prop} {m : Str → Option Value} {px pos : Pos} {iter : Expr} (_F : Fr h₀ env.locals s.heap m) (hx : env.kindOf x = some .local)
    (hp : (env.scope.kind == .class || (env.scope.kind == .module && env.locals != env.globals)) = false)
    (h : wpAny (model prog w) A (eval iter env) (fun xv s₁ => wpAny (model prog w) A (pyIter xv) (fun it s₂ => LoopStop prog w A h₀ env x body Q E it s₂) E s₁) E s)
    (hs : ∀ x, foldedSetIterable iter env x = pure x := by intro _; rfl)
    (hE : PassesOwn (model prog w) A env E := by passes_own) :
    wpAny (model prog w) A (exec (.For (.Name x px) iter body [] pos) env) Q E s := For_invV h₀ hx hp h hs hE
end
section
variable {prog : Program} {w : World} {A : Around} {E : Value → Shared → Prop} {s : Shared} {env : Env} {h₀ : Heap} {x z : Str} {body : List Stmt} {Q : Flow → Shared → Prop}
def MEnd2 (h₀ : Heap) (L : Addr) (x z : Str) (m₀ : Str → Option Value) (I : Addr) (oI : Obj) (l : Addr) (ol : Obj) (J : Option Value → List (Addr × Obj) → Prop) (s : Shared) (Q : Flow → Shared → Prop) (f : Flow) (s₂ : Shared) : Prop :=
  match f with
  | .ret v => Q (.ret v) s₂
  | .brk => ∃ h' tk' m' news', s₂ = { s with heap := h', toks := tk' } ∧ Fr h₀ L h' m' ∧ (∀ y, y ≠ x → y ≠ z → m' y = m₀ y) ∧ News h₀ L h' news' ∧ (∀ v' h'' , Fr h₀ L h'' (fun y => if y = x then v' else if y = z then m' z else m₀ y) → News h₀ L h'' news' → h'' = h' → Q .next s₂)
  | _ => ∃ h' tk' m' news', s₂ = { s with heap := h', toks := tk' } ∧ Fr h₀ L h' m' ∧ (∀ y, y ≠ x → y ≠ z → m' y = m₀ y) ∧ News h₀ L h' news' ∧ h'.get? I = some oI ∧ h'.get? l = some ol ∧ (∀ p ∈ news', p.1 ≠ I) ∧ J (m' z) news'
theorem two_names {m m₀ : Str → Option Value} (h : ∀ y, y ≠ x → y ≠ z → m y = m₀ y) (hxz : x ≠ z) : m = fun y => if y = x then m x else if y = z then m z else m₀ y := by
  funext y
  by_cases h1 : y = x
  · simp [h1]
  · by_cases h2 : y = z
    · subst h2; simp [h1]
    · simp [h1, h2, h y h1 h2]
theorem iter_listM2 {l : Addr} {vs : List Value} {nl : Nat} {m₀ : Str → Option Value} {news : List (Addr × Obj)} (hxz : x ≠ z) (J : Nat → Option Value → List (Addr × Obj) → Prop)
    (hh : A.handled = none) (F : Fr h₀ env.locals s.heap m₀) (N : News h₀ env.locals s.heap news) (hl : s.heap.get? l = some (listOf vs.toArray nl)) (hlL : l ≠ env.locals) (hj : J 0 (m₀ z) news)
    (turn : ∀ i v b news₁ h tk I oI, vs[i]? = some v → J i b news₁ → Fr h₀ env.locals h (fun y => if y = x then some v else if y = z then b else m₀ y) → News h₀ env.locals h news₁ → h.get? I = some oI → s.heap.objs.size ≤ I → h₀.get? I = none → I ≠ env.locals → h.get? l = some (listOf vs.toArray nl) → (∀ p ∈ news₁, p.1 ≠ I) →
      wpAny (model prog w) A (execs body env) (MEnd2 h₀ env.locals x z m₀ I oI l (listOf vs.toArray nl) (J (i + 1)) s Q) E { s with heap := h, toks := tk })
    (done : ∀ a b news₁ h tk, J vs.length b news₁ → Fr h₀ env.locals h (fun y => if y = x then a else if y = z then b else m₀ y) → News h₀ env.locals h news₁ → Q .next { s with heap := h, toks := tk }) :
    wpAny (model prog w) A (pyIter (.ref l)) (fun it s₂ => LoopStop prog w A h₀ env x body Q E it s₂) E s := by
  have q : wpAny (model prog w) A (pyIter (.ref l)) (fun it s₂ => LoopAtV prog w A h₀ env x body Q E it s₂) E s := by
    refine iter_listN (fun i m news => (∃ a b, (m = fun y => if y = x then a else if y = z then b else m₀ y) ∧ J i b news)) hh F N hl hlL ⟨m₀ x, m₀ z, two_names (fun _ _ _ => rfl) hxz, hj⟩ ?_ ?_
    · rintro i v m₁ news₁ h tk I oI hv ⟨a, b, rfl, hJ⟩ F N a1 a2 a3 a4 a5 a6
      have e : (fun y => if y = x then some v else if y = x then a else if y = z then b else m₀ y) = fun y => if y = x then some v else if y = z then b else m₀ y := by funext y; by_cases h : y = x <;> simp [h]
      rw [e] at F
      refine wpAny_mono (turn i v b news₁ h tk I oI hv hJ F N a1 a2 a3 a4 a5 a6) (fun f s₂ p => ?_) fun _ _ e => e
      cases f with
      | ret v => exact p
      | brk =>
        obtain ⟨h', tk', m', news', rfl, F', hm, N', k⟩ := p
        exact k (m' x) h' (two_names hm hxz ▸ F') N' rfl
      | next => obtain ⟨h', tk', m', news', rfl, F', hm, N', b1, b2, b3, b4⟩ := p; exact ⟨h', tk', m', news', rfl, F', N', b1, b2, b3, _, _, two_names hm hxz, b4⟩
      | cont => obtain ⟨h', tk', m', news', rfl, F', hm, N', b1, b2, b3, b4⟩ := p; exact ⟨h', tk', m', news', rfl, F', N', b1, b2, b3, _, _, two_names hm hxz, b4⟩
    · rintro m₁ news₁ h tk ⟨a, b, rfl, hJ⟩ F N
      exact done a b news₁ h tk hJ F N
  exact q
theorem MEnd2.go {L : Addr} {m₀ m' : Str → Option Value} {I : Addr} {oI : Obj} {l : Addr} {ol : Obj} {J : Option Value → List (Addr × Obj) → Prop} {news' : List (Addr × Obj)} {h' : Heap} {g : Array GenState} {d : Drawn} {tk : Nat} {os : OsState} (F : Fr h₀ L h' m') (hm : ∀ y, y ≠ x → y ≠ z → m' y = m₀ y)
    (N : News h₀ L h' news') (hI : h'.get? I = some oI) (hl : h'.get? l = some ol) (hn : ∀ p ∈ news', p.1 ≠ I) (hJ : J (m' z) news') (hs : s = ⟨s.heap, g, d, s.toks, os⟩) : MEnd2 h₀ L x z m₀ I oI l ol J s Q .next ⟨h', g, d, tk, os⟩ := by
  have e : (⟨h', g, d, tk, os⟩ : Shared) = { s with heap := h', toks := tk } := by rw [hs]
  exact ⟨h', tk, m', news', e, F, hm, N, hI, hl, hn, hJ⟩
end
end Mine
-- CompT
namespace Mine
open LCg LCt
section
variable {prog : Program} {w : World} {A : Around} {E : Value → Shared → Prop} {s : Shared} {h₀ : Heap} {L : Addr} {m : Str → Option Value} {env : Env}
/-- the walk halts here: a comprehension with a test -/
def CompStopT (prog : Program) (w : World) (A : Around) (h₀ : Heap) (L : Addr) (m : Str → Option Value) (env : Env) (ct elt : Expr) (x : Str) (scope : Scope) (cl : List (Str × Addr)) (Fin : Shared → List Value → List (Addr × Obj) → Prop) (xv : Value) (s₁ : Shared) : Prop :=
  CompSrcT prog w A h₀ L m env ct elt x scope cl Fin xv s₁
theorem ListComp_VT {ct elt iter : Expr} {x : Str} {px : Pos} {scope : Scope} {cl : List (Str × Addr)} {pos : Pos} {Q : Value → Shared → Prop} (F₀ : Fr h₀ L s.heap m)
    (hclos : closureFor scope env = pure cl) (hcell : ∀ y ∈ scope.names, y.2 ≠ .cell) (hkind : scope.kind = .function)
    (hnames : ∀ y ∈ scope.names, y.2 = .local → scope.names.lookup y.1 = some .local) (hx : scope.names.lookup x = some .local)
    (h : wpAny (model prog w) A (eval iter env) (CompStopT prog w A h₀ L m env ct elt x scope cl (fun s₂ => FinE h₀ L m s₂ Q)) E s)
    (hs : ∀ x, foldedSetIterable iter env x = pure x := by intro _; rfl) :
    wpAny (model prog w) A (eval (.ListComp elt [⟨.Name x px, iter, [ct], 0⟩] scope pos) env) Q E s :=
  ListComp_T F₀ hclos hcell hkind hnames hx h hs
theorem compT_ind {ct elt : Expr} {x : Str} {scope : Scope} {cl : List (Str × Addr)} {S : List (Addr × Obj) → Prop} {P : Nat → Value → Prop} {Fin : List Value → List (Addr × Obj) → Prop}
    (Inv : Nat → List Value → List (Addr × Obj) → Prop) (n : Nat)
    (turn : ∀ i ys news, i < n → Inv i ys news → ∀ v I oI C oC D m₂ h tk (E' : Value → Shared → Prop), P i v → NsObj oC m₂ → m₂ x = some v → Fr h₀ L h m → News h₀ L h ((I, oI) :: (C, oC) :: (D, lst ys) :: news) → Off3 I C D news → ((@Ne Nat I C) ∧ (@Ne Nat I D) ∧ (@Ne Nat C D)) →
      wpAny (model prog w) A (isTrue ct (compEnvC scope cl C env) (eval ct (compEnvC scope cl C env))) (fun ok s' => if ok = true then
        wpAny (model prog w) A (eval elt (compEnvC scope cl C env)) (TurnStop h₀ L m { s with heap := h, toks := tk } I oI C oC D (lst ys) S (fun y news' => Inv (i + 1) (ys ++ [y]) news')) E' s'
        else TurnStop h₀ L m { s with heap := h, toks := tk } I oI C oC D (lst ys) S (fun _ news' => Inv (i + 1) ys news') Value.none s') E' { s with heap := h, toks := tk })
    (fin : ∀ ys news, Inv n ys news → Fin ys news) :
    ∀ k i ys news, i + k = n → Inv i ys news → CompRestT prog w A h₀ L m env ct elt x scope cl s S P Fin k i ys news := by
  intro k
  induction k with
  | zero => intro i ys news hi hI; obtain rfl : i = n := by omega
            exact CompRestT.zero (fin ys news hI)
  | succ k ih =>
    intro i ys news hi hI
    refine CompRestT.succ fun v I oI C oC D m₂ h tk E' hP hC hx F N off ne => ?_
    refine wpAny_mono (turn i ys news (by omega) hI v I oI C oC D m₂ h tk E' hP hC hx F N off ne) (fun ok s₂ p => ?_) fun _ _ e => e
    cases ok with
    | true =>
      simp only [if_true] at p ⊢
      refine wpAny_mono p (fun y s₃ p => ?_) fun _ _ e => e
      obtain ⟨h', tk', news', e, F', N', off', hS, hI'⟩ := p
      exact ⟨h', tk', news', e, F', N', off', hS, ih (i + 1) _ news' (by omega) hI'⟩
    | false =>
      simp only [Bool.false_eq_true, if_false] at p ⊢
      obtain ⟨h', tk', news', e, F', N', off', hS, hI'⟩ := p
      exact ⟨h', tk', news', e, F', N', off', hS, ih (i + 1) _ news' (by omega) hI'⟩
end
section
variable {h₀ : Heap} {L : Addr} {s : Shared}
theorem turn_end {its all news' : List (Addr × Obj)} {rest : (Str → Option Value) → List (Addr × Obj) → Prop} {h' : Heap} {gg : Array GenState} {d : Drawn} {tk : Nat} {os : OsState} {m' : Str → Option Value} (F : Fr h₀ L h' m') (N : News h₀ L h' all)
    (hI : ∀ p ∈ its, p ∈ all) (sub : ∀ p ∈ news', p ∈ all) (off : ∀ p ∈ news', ∀ q ∈ its, p.1 ≠ q.1) (r : rest m' news') (hs : s = ⟨s.heap, gg, d, s.toks, os⟩) : UnrEndW h₀ L s its rest ⟨h', gg, d, tk, os⟩ := by
  have e : (⟨h', gg, d, tk, os⟩ : Shared) = { s with heap := h', toks := tk } := by rw [hs]
  exact ⟨h', tk, m', news', e, F, fun p hp => by
    rcases List.mem_append.mp hp with hp | hp
    · exact N p (hI p hp)
    · exact N p (sub p hp), off, r⟩
theorem mem_subL {l : List (Addr × Obj)} {p : Addr × Obj} (h : p ∈ l) : SubL [p] l := ⟨h, trivial⟩
end
end Mine
-- Enum
namespace Mine
section
variable {prog : Program} {w : World} {A : Around} {s : Shared} {env : Env}
/-- what a turn of a search hands on: found, or the heap as it was -/
def SearchPost (s : Shared) (h : Heap) (Jn : Prop) (R : Flow → Shared → Prop) (f : Flow) (s₂ : Shared) : Prop :=
  match f with
  | .ret v => R (.ret v) s₂
  | .next => Jn ∧ ∃ tk, s₂ = { s with heap := h, toks := tk }
  | _ => False
theorem loop_enumR {R : Result → Shared → Prop} {g : Heap} {xi xv : Str} {pi pv pt : Pos} {x1} {body : List Stmt} {e it l : Addr} {items : Array Value} {m : Str → Option Value}
    (hh : A.handled = none) (hxi : env.kindOf xi = some .local) (hxv : env.kindOf xv = some .local)
    (hp : (env.scope.kind == .class || (env.scope.kind == .module && env.locals != env.globals)) = false)
    (hei : e ≠ it) (heL : e ≠ env.locals) (hiL : it ≠ env.locals) (hlL : l ≠ env.locals) (hle : l ≠ e) (hli : l ≠ it)
    (he : IsEnum s.heap e it 0 .none) (hit : s.heap.IsListIter it l 0) (hl : s.heap.IsList l items) (F : Fr g env.locals s.heap m) (hge : g.get? e = none) (hgi : g.get? it = none)
    (J : Nat → Prop) (h0 : J 0)
    (step : ∀ i v tk h tk', items[i]? = some v → J i → Ext [env.locals, e, it] s.heap h → Fr g env.locals h (fun y => if y = xv then some v else if y = xi then some (.int i tk) else m y) →
      wpAny (model prog w) A (execs body env) (SearchPost s h (J (i + 1)) (fun f s' => R (.ok f) s')) (notedBy (model prog w) A env fun e s' => R (.error e) s') { s with heap := h, toks := tk' })
    (hR : ∀ h tk a b, J items.size → Ext [env.locals, e, it] s.heap h → Fr g env.locals h (fun y => if y = xv then a else if y = xi then b else m y) → R (.ok .next) { s with heap := h, toks := tk }) :
    codeAny (model prog w) A (.forLoop (.Tuple [.Name xi pi, .Name xv pv] x1 pt) (.ref e) body [] env) R s := by
  have e0 : m = fun y => if y = xv then m xv else if y = xi then m xi else m y := by
    funext y; by_cases h1 : y = xv
    · simp [h1]
    · rw [if_neg h1]
      by_cases h2 : y = xi
      · rw [if_pos h2, h2]
      · rw [if_neg h2]
  refine codeAny_forLoop_any
    (fun k s' => ∃ h' tk a b i old, s' = { s with heap := h', toks := tk } ∧ IsEnum h' e it ((i : Nat) : Int) old ∧ h'.IsListIter it l i ∧ h'.IsList l items ∧ Fr g env.locals h' (fun y => if y = xv then a else if y = xi then b else m y) ∧ J i ∧ i ≤ items.size ∧
      k = items.size + 1 - i ∧ Ext [env.locals, e, it] s.heap h') ?_ (items.size + 1)
    ⟨s.heap, s.toks, m xv, m xi, 0, .none, rfl, he, hit, hl, e0 ▸ F, h0, Nat.zero_le _, rfl, Ext.refl _ _⟩
  rintro k s' ⟨H, tk, a, b, i, old, rfl, he', hit', hl', F', hJ, hi, rfl, hk⟩
  have hn' := F'.ns
  have keepg : ∀ {h₁ : Heap} (_ : ∀ b o, b ≠ e → b ≠ it → H.get? b = some o → h₁.get? b = some o), ∀ b o, g.get? b = some o → h₁.get? b = some o := fun q b o x => q b o (fun z => by rw [z, hge] at x; cases x) (fun z => by rw [z, hgi] at x; cases x) (F'.keep b o x)
  cases hv : items[i]? with
  | none =>
    have hsz : i = items.size := Nat.le_antisymm hi (by simpa using hv)
    refine wpAny_pyNext_enum_end hh he' hit' hl' hv fun h₁ he₁ => wpAny_execs_nil ?_
    refine hR h₁ tk a b (hsz ▸ hJ) (fun c o hc x => he₁ c o (fun z => hc (by rw [z]; simp)) (hk c o hc x)) ⟨hn'.extBut he₁ (Ne.symm hiL), keepg fun c o _ h2 x => he₁ c o h2 x, F'.above⟩
  | some v =>
    have hlt : i < items.size := (Array.getElem?_eq_some_iff.mp hv).1
    have heH : e < H.objs.size := Heap.lt_size he'
    have hLH : env.locals < H.objs.size := hn'.lt
    obtain ⟨oi, hoi, _⟩ := id hit'
    obtain ⟨ol, hol, _⟩ := id hl'
    have hiH : it < H.objs.size := Heap.lt_size hoi
    have hlH : l < H.objs.size := Heap.lt_size hol
    refine wpAny_pyNext_enum_item he' hit' hl' hv hei fun h₁ heo hit₁ ht₁ hz₁ hk₁ => ?_
    refine wpAny_letOwnedTupleGo_enum heo fun h₂ he₂ hs₂ => ?_
    replace hs₂ : Heap.SameBut e h₁ h₂ := hs₂
    have ht₂ : h₂.IsTuple H.objs.size #[.int i tk, v] := ⟨_, (hs₂.2 _ (Nat.ne_of_gt heH)).trans ht₁, rfl, _, rfl⟩
    have hz₂ : h₂.objs.size = H.objs.size + 1 := hs₂.1.trans hz₁
    refine wpAny_assign_Tuple hh ht₂ rfl rfl fun h₃ hx₃ => ?_
    replace hx₃ : Heap.ExtBut h₂.objs.size h₂ h₃ := hx₃
    have old₃ : ∀ b o, b < H.objs.size → h₂.get? b = some o → h₃.get? b = some o := fun b o hb x => hx₃ b o (by rw [hz₂]; exact Nat.ne_of_lt (Nat.lt_succ_of_lt hb)) x
    have hn₃ : h₃.Ns env.locals (fun y => if y = xv then a else if y = xi then b else m y) := (hn'.at fun o x => hk₁ _ o (Ne.symm heL) (Ne.symm hiL) x).sameBut hs₂ (Ne.symm heL) |>.at fun o x => old₃ _ o hLH x
    show wpAny _ A (do holding [v] (assign (.Name xi pi) env (.int i tk)); do holding [] (assign (.Name xv pv) env v); pure ()) _ _ _
    refine wpAny_bind (wpAny_holding (wpAny_assign_Name (wpAny_storeName_local hxi hn₃ (fun h₄ hn₄ hs₄ => ?_) hp)))
    replace hs₄ : Heap.SameBut env.locals h₃ h₄ := hs₄
    refine wpAny_bind (wpAny_holding (wpAny_assign_Name (wpAny_storeName_local hxv hn₄ (fun h₅ hn₅ hs₅ => wpAny_pure ?_) hp)))
    replace hs₅ : Heap.SameBut env.locals h₄ h₅ := hs₅
    have up : ∀ c o, c ≠ env.locals → c < H.objs.size → h₂.get? c = some o → h₅.get? c = some o := fun c o hbL hb x =>
      hs₅.extBut c o hbL (hs₄.extBut c o hbL (old₃ c o hb x))
    have upH : ∀ c o, c ≠ env.locals → c ≠ e → c ≠ it → H.get? c = some o → h₅.get? c = some o := fun c o h1 h2 h3 x => up c o h1 (Heap.lt_size x) (hs₂.extBut c o h2 (hk₁ c o h2 h3 x))
    have F₅ : Fr g env.locals h₅ (fun y => if y = xv then some v else if y = xi then some (.int i tk) else m y) := by
      refine ⟨?_, fun c o x => ?_, F'.above⟩
      · have q : (fun y => if y = xv then some v else if y = xi then some (Value.int i tk) else m y) = fun y => if y = xv then some v else if y = xi then some (Value.int i tk) else (if y = xv then a else if y = xi then b else m y) := by
          funext y; by_cases h1 : y = xv
          · simp [h1]
          · simp only [if_neg h1]
            by_cases h2 : y = xi
            · simp only [if_pos h2]
            · simp only [if_neg h2]
        rw [q]; exact hn₅
      · have hcL : c ≠ env.locals := fun z => by
          have := Heap.lt_size x; rw [z] at this; exact absurd (Nat.lt_of_lt_of_le this F'.above) (Nat.lt_irrefl _)
        exact upH c o hcL (fun z => by rw [z, hge] at x; cases x) (fun z => by rw [z, hgi] at x; cases x) (F'.keep c o x)
    refine wpAny_mono (step i v tk h₅ _ hv hJ (fun c o hc x => upH c o (fun z => hc (by rw [z]; simp)) (fun z => hc (by rw [z]; simp)) (fun z => hc (by rw [z]; simp)) (hk c o hc x)) F₅) (fun f s₃ h₆ => ?_) fun _ _ x => x
    cases f with
    | ret v => exact h₆
    | brk => exact h₆.elim
    | cont => exact h₆.elim
    | next =>
      obtain ⟨hJ₆, tk₆, rfl⟩ := h₆
      refine ⟨items.size + 1 - (i + 1), by omega, h₅, tk₆, some v, some (.int i tk), i + 1, v, rfl, ?_, ?_, ?_, F₅, hJ₆, hlt, rfl, fun c o hc x => upH c o (fun z => hc (by rw [z]; simp)) (fun z => hc (by rw [z]; simp)) (fun z => hc (by rw [z]; simp)) (hk c o hc x)⟩
      · have : ((i + 1 : Nat) : Int) = (i : Int) + 1 := by push_cast; rfl
        rw [this]; exact up e _ heL heH he₂
      · exact (hit₁.extBut hs₂.extBut (Ne.symm hei)).at fun o x => up it o hiL hiH x
      · exact ((hl'.at fun o x => hk₁ l o hle hli x).extBut hs₂.extBut hle).at fun o x => up l o hlL hlH x

/-- the walk halts here: an enumerate in a loop's head -/
def EnumStop (prog : Program) (w : World) (A : Around) (g : Heap) (env : Env) (xi xv : Str) (body : List Stmt) (Q : Flow → Shared → Prop) (E : Value → Shared → Prop) (xval : Value) (s₁ : Shared) : Prop :=
  ∃ (e it l : Addr) (items : Array Value) (m : Str → Option Value) (J : Nat → Prop),
    xval = .ref e ∧ e ≠ it ∧ e ≠ env.locals ∧ it ≠ env.locals ∧ l ≠ env.locals ∧ l ≠ e ∧ l ≠ it ∧ IsEnum s₁.heap e it 0 .none ∧ s₁.heap.IsListIter it l 0 ∧ s₁.heap.IsList l items ∧ Fr g env.locals s₁.heap m ∧ g.get? e = none ∧ g.get? it = none ∧ J 0 ∧
    (∀ i v tk h tk', items[i]? = some v → J i → Ext [env.locals, e, it] s₁.heap h → Fr g env.locals h (fun y => if y = xv then some v else if y = xi then some (.int i tk) else m y) →
      wpAny (model prog w) A (execs body env) (SearchPost s₁ h (J (i + 1)) Q) E { s₁ with heap := h, toks := tk' }) ∧
    (∀ h tk a b, J items.size → Ext [env.locals, e, it] s₁.heap h → Fr g env.locals h (fun y => if y = xv then a else if y = xi then b else m y) → Q .next { s₁ with heap := h, toks := tk })
theorem For_enumR {Q : Flow → Shared → Prop} {E : Value → Shared → Prop} {g : Heap} {m₀ : Str → Option Value} {xi xv : Str} {pi pv pt pos : Pos} {x1} {iter : Expr} {body : List Stmt} (_F : Fr g env.locals s.heap m₀)
    (hh : A.handled = none) (hxi : env.kindOf xi = some .local) (hxv : env.kindOf xv = some .local)
    (hp : (env.scope.kind == .class || (env.scope.kind == .module && env.locals != env.globals)) = false)
    (h : wpAny (model prog w) A (eval iter env) (EnumStop prog w A g env xi xv body Q E) E s)
    (hs : ∀ x, foldedSetIterable iter env x = pure x := by intro _; rfl)
    (hE : PassesOwn (model prog w) A env E := by passes_own) :
    wpAny (model prog w) A (exec (.For (.Tuple [.Name xi pi, .Name xv pv] x1 pt) iter body [] pos) env) Q E s := by
  refine wpAny_For (wpAny_mono h (fun xval s₁ h₁ => ?_) fun _ _ x => x) hs
  obtain ⟨e, it, l, items, m, J, rfl, hei, heL, hiL, hlL, hle, hli, he, hit, hl, F, hge, hgi, h0, step, hQ⟩ := h₁
  exact wpAny_pyIter_enum he (loop_enumR (R := fun r s' => match r with | .ok f => Q f s' | .error e => cameBackBy (model prog w) A env E e s') hh hxi hxv hp hei heL hiL hlL hle hli he hit hl F hge hgi J h0 (fun i v tk h tk' a b c d => wpAny_passesOwn hE (step i v tk h tk' a b c d)) hQ)
end
end Mine
-- Rev
namespace Mine
section
variable {prog : Program} {w : World} {A : Around} {E : Value → Shared → Prop} {s : Shared} {env : Env} {h₀ : Heap} {x : Str} {body : List Stmt} {Q : Flow → Shared → Prop}
/-- a loop over a list, forth or back: it turns only its own name in the frame -/
theorem loop_core {I l : Addr} {n nl : Nat} {vs : List Value} {P : Nat → Value → Prop} {St : Nat → Heap → Prop} {m₀ : Str → Option Value} {news : List (Addr × Obj)} (W₀ : Walks prog w A I [I, l] [I] n P St)
    (hlist : ∀ i h h', St i h → h.get? l = some (listOf vs.toArray nl) → (∀ o, h.get? I = some o → h'.get? I = some o) → h'.get? l = some (listOf vs.toArray nl) → St i h')
    (hIo : ∀ i h, St i h → ∃ o, h.get? I = some o) (hne : l ≠ I) (J : Nat → List (Addr × Obj) → Prop)
    (F : Fr h₀ env.locals s.heap m₀) (N : News h₀ env.locals s.heap news) (hl : s.heap.get? l = some (listOf vs.toArray nl)) (hst : St 0 s.heap) (hlL : l ≠ env.locals) (hIL : I ≠ env.locals) (hI₀ : h₀.get? I = none) (hoff : ∀ p ∈ news, p.1 ≠ I) (hj : J 0 news)
    (turn : ∀ i v news₁ h tk oI, i < n → P i v → J i news₁ → Fr h₀ env.locals h (fun y => if y = x then some v else m₀ y) → News h₀ env.locals h news₁ → h.get? I = some oI → h.get? l = some (listOf vs.toArray nl) → (∀ p ∈ news₁, p.1 ≠ I) →
      wpAny (model prog w) A (execs body env) (MEnd h₀ env.locals x m₀ I oI l (listOf vs.toArray nl) (J (i + 1)) s Q) E { s with heap := h, toks := tk })
    (done : ∀ v' news₁ h tk, J n news₁ → Fr h₀ env.locals h (fun y => if y = x then v' else m₀ y) → News h₀ env.locals h news₁ → Q .next { s with heap := h, toks := tk }) :
    LoopAtV prog w A h₀ env x body Q E (.ref I) s := by
  have W : Walks prog w A I [I, l] [I] n P (fun i h => St i h ∧ h.get? l = some (listOf vs.toArray nl)) := {
    sub := W₀.sub
    frame := fun i h h' st hk => ⟨W₀.frame i h h' st.1 hk, hk l (by simp) _ st.2⟩
    item := fun i s Q E hi st hQ => W₀.item i s Q E hi st.1 fun v h' tk hP hst' hk => hQ v h' tk hP ⟨hst', hk l _ (by simpa using hne) st.2⟩ hk
    done := fun s Q E st hQ => W₀.done s Q E st.1 hQ
    self := fun i s Q E st hQ => W₀.self i s Q E st.1 hQ }
  refine ⟨I, _, _, n, _, _, m₀, news, fun i m news => (∃ v', m = fun y => if y = x then v' else m₀ y) ∧ J i news, rfl, W, ?_, ?_, ?_, ⟨hst, hl⟩, F, N, ⟨⟨m₀ x, by funext y; by_cases h : y = x <;> simp [h]⟩, hj⟩, ?_, ?_⟩
  · intro hm
    rcases List.mem_cons.mp hm with e | hm
    · exact hIL e.symm
    · exact hlL (List.mem_singleton.mp hm).symm
  · intro b hb
    rw [List.mem_singleton.mp hb]; exact hI₀
  · intro p hp hI
    exact hoff p hp (List.mem_singleton.mp hI)
  · rintro i v m₁ news₁ s₁ own ⟨hh', tk', rfl⟩ hin hP ⟨⟨v', rfl⟩, hJ⟩ hof hown hget hall hst F₁ N₁
    obtain ⟨hst1, hel⟩ := hst
    obtain ⟨oI, heI⟩ := hIo _ _ hst1
    have e : (fun y => if y = x then some v else if y = x then v' else m₀ y) = fun y => if y = x then some v else m₀ y := by funext y; by_cases h : y = x <;> simp [h]
    rw [e] at F₁
    refine wpAny_mono (turn i v news₁ hh' tk' oI hin hP hJ F₁ (fun p hp => N₁ p (List.mem_append_right _ hp)) heI hel (fun p hp e => hof p hp (by rw [e]; exact List.mem_singleton.mpr rfl))) (fun f s₂ p => ?_) fun _ _ e => e
    have fin : (∃ h' tk v' news', s₂ = { s with heap := h', toks := tk } ∧ Fr h₀ env.locals h' (fun y => if y = x then v' else m₀ y) ∧ News h₀ env.locals h' news' ∧ h'.get? I = some oI ∧ h'.get? l = some (listOf vs.toArray nl) ∧ (∀ p ∈ news', p.1 ≠ I) ∧ J (i + 1) news') →
        LoopStepU h₀ env.locals [I] own (fun m news => (∃ v', m = fun y => if y = x then v' else m₀ y) ∧ J (i + 1) news) { s with heap := hh', toks := tk' } .next s₂ := by
      rintro ⟨h', tk, v', news', rfl, F', N', eI, el, hn, hm⟩
      refine ⟨rfl, h', tk, _, news', rfl, F', fun p hp => ?_, fun p hp hq => hn p hp (List.mem_singleton.mp hq), ⟨v', rfl⟩, hm⟩
      rcases List.mem_append.mp hp with hp | hp
      · have hg := hget p hp
        refine ⟨?_, (N₁ p (List.mem_append_left _ hp)).2⟩
        rcases List.mem_cons.mp (hown p hp) with h1 | h1
        · rw [h1] at hg ⊢; rw [heI] at hg; rw [eI, hg]
        · have h2 := List.mem_singleton.mp h1
          rw [h2] at hg ⊢; rw [hel] at hg; rw [el]; exact hg
      · exact N' p hp
    cases f with
    | ret v => exact .ret p
    | brk => exact .brk p
    | next => exact .next (fin p)
    | cont => exact .cont (fin p)
  · rintro h' tk m' news' F' N' _ ⟨⟨v', rfl⟩, hJ⟩
    exact done v' news' h' tk hJ F' N'
/-- for x in reversed(l) -/
theorem iter_revM {l : Addr} {vs : List Value} {nl : Nat} {m₀ : Str → Option Value} {news : List (Addr × Obj)} (J : Nat → List (Addr × Obj) → Prop) {Q' : Value → Shared → Prop}
    (hh : A.handled = none) (F : Fr h₀ env.locals s.heap m₀) (N : News h₀ env.locals s.heap news) (hl : s.heap.get? l = some (listOf vs.toArray nl)) (hlL : l ≠ env.locals) (hj : J 0 news)
    (turn : ∀ i v news₁ h tk I oI, vs.reverse[i]? = some v → J i news₁ → Fr h₀ env.locals h (fun y => if y = x then some v else m₀ y) → News h₀ env.locals h news₁ → h.get? I = some oI → s.heap.objs.size ≤ I → h₀.get? I = none → I ≠ env.locals → h.get? l = some (listOf vs.toArray nl) → (∀ p ∈ news₁, p.1 ≠ I) →
      wpAny (model prog w) A (execs body env) (MEnd h₀ env.locals x m₀ I oI l (listOf vs.toArray nl) (J (i + 1)) s Q) E { s with heap := h, toks := tk })
    (done : ∀ v' news₁ h tk, J vs.length news₁ → Fr h₀ env.locals h (fun y => if y = x then v' else m₀ y) → News h₀ env.locals h news₁ → Q .next { s with heap := h, toks := tk })
    (hQ' : ∀ xv s₁, wpAny (model prog w) A (pyIter xv) (fun it s₂ => LoopAtV prog w A h₀ env x body Q E it s₂) E s₁ → Q' xv s₁) :
    wpAny (model prog w) A (call (.type "reversed") [.ref l]) Q' E s := by
  have hls : s.heap.IsList l vs.toArray := ⟨_, hl, rfl, _, rfl⟩
  have hlt : l < s.heap.objs.size := Heap.lt_size hl
  have hne : l ≠ s.heap.objs.size := Nat.ne_of_lt hlt
  refine call_reversed_list hls (hQ' _ _ ?_)
  have hpush : (s.heap.push (revObj l ((vs.toArray.size : Int) - 1))).get? s.heap.objs.size = some (revObj l ((vs.toArray.size : Int) - 1)) := Heap.get?_push_size _ rfl
  refine wpAny_pyIter_revIter (l := l) (i := (vs.toArray.size : Int) - 1) ⟨_, hpush, rfl, rfl⟩ ?_
  have hIL : s.heap.objs.size ≠ env.locals := fun e => absurd F.ns.lt (e ▸ Nat.lt_irrefl _)
  have hI₀ := next_is_new F
  have lenE : vs.toArray.size = vs.length := by simp
  have q : LoopAtV prog w A h₀ env x body Q E (.ref s.heap.objs.size) { s with heap := s.heap.push (revObj l ((vs.toArray.size : Int) - 1)) } := by
    refine loop_core (Walks.listRev (prog := prog) (w := w) hh s.heap.objs.size l hne vs.toArray) (fun i h h' st hl' kI hl'' => ⟨st.1, st.2.1.at kI, _, hl'', rfl, _, rfl⟩) (fun i h st => let ⟨o, e, _⟩ := st.2.1; ⟨o, e⟩) hne (fun i => J i) (F.push _) (fun p hp => ⟨Heap.get?_push_of_some _ (N p hp).1, (N p hp).2⟩) (Heap.get?_push_of_some _ hl)
      ⟨Nat.zero_le _, ⟨_, hpush, rfl, by simp [revObj]⟩, hls.at fun o e => Heap.get?_push_of_some _ e⟩ hlL hIL hI₀ (fun p hp e => absurd (Heap.lt_size (N p hp).1) (e ▸ Nat.lt_irrefl _)) hj (fun i v news₁ h tk oI hi hP hJ F N eI el hoff => ?_) (fun v' news₁ h tk hJ => done v' news₁ h tk (by rw [lenE] at hJ; exact hJ))
    refine turn i v news₁ h tk _ oI ?_ hJ F N eI (Nat.le_refl _) hI₀ hIL el hoff
    rw [lenE] at hi hP
    rw [List.getElem?_reverse hi]
    simpa using hP
  exact q
end
end Mine
-- Take
namespace Mine
local macro_rules | `(tactic| wtm_at "mine enter") => `(tactic| (refine' code_mine ?k1 ?k2 ?k3 ?k4 ?k5 ?kA ?kF ?kK ?k6 ?k7 ?k8 ?k9 ?kB ?_ ?c2 ?c3 ?c4 ?c5; (case kA => exact rfl); (case kF => exact rfl); (case kK => first | exact rfl | assumption); (case k1 => k_asm); (case k2 => k_asm); (case k3 => k_asm); (case k4 => assumption); (case k5 => k_asm); (case k6 => k_is); (case k7 => k_is); (case k8 => ktr_room); (case k9 => first | exact BindsTo.of_eq rfl | exact binds_K (by k_in) rfl (by k_is) rfl rfl rfl); (case c5 => decide); (case kB => exact locs rfl); (case c2 => exact rfl); (case c3 => exact rfl); (case c4 => exact rfl); k_whole))
/-- digits: ints of 0 .. 7 -/
def Digs (vs : List Value) : Prop := ∃ ns, IntsAre vs ns ∧ (∀ x ∈ ns, 0 ≤ x ∧ x < 8) ∧ vs.length ≤ 1000
section
variable {w : World} {A₀ : Around} {s : Shared} {L a : Addr} {h₀ base : Heap} {m mg mb : Str → Option Value} {mean : ExcName → Option Value} {loose : List Str}
  {dp un : Nat} {gd : Option (List Code)} {cn : Str} {cs : Scope} {ccd : Value} {cl : List (Str × Addr)} {outer : List Env} {E : Value → Shared → Prop}
set_option maxHeartbeats 4000000 in
theorem take_spec {Q : Value → Shared → Prop} {D : Addr} {vs : List Value} {ns : List Int} {n : Nat} {k : Int} {u : Tok}
  (B : Below A₀ base outer h₀) (F : Fr h₀ L s.heap m) (X : (Mine.hd.heap_39 w.params).In h₀) (T : Top Mine.hd.view_39 loose mean mg mb h₀) (hk : cs.kind = .function)
  (hd : s.heap.get? D = some (listOf vs.toArray n)) (hD₀ : h₀.get? D = none) (hDL : D ≠ L) (hi : IntsAre vs ns) (hb : ∀ x ∈ ns, 0 ≤ x ∧ x < 8) (hlen : vs.length ≤ 1000)
  (hk0 : 0 < k) (hk8 : k ≤ 8)
  (hdp : dp + 5 < recursionLimit) (hun : un + 50 < cLine)
  (ret : ∀ r t vs' ns' n' h' tk', 0 ≤ r → r < k → IntsAre vs' ns' → (∀ x ∈ ns', 0 ≤ x ∧ x < 8) → vs'.length ≤ vs.length → h'.get? D = some (listOf vs'.toArray n') → Ext [D] s.heap h' → Q (.int r t) {s with heap := h', toks := tk'})
  : wpAny (model pw w) (ktrTop dp un gd cn cs L a ccd cl outer) (call (.ref 343) [.ref D, .int k u]) Q E s := by
  refine wpAny_call ?_
  have N : News h₀ L s.heap [(D, listOf vs.toArray n)] := fun p hp => by
    rw [List.mem_singleton.mp hp]; exact ⟨hd, hDL, hD₀⟩
  k_dflt wtm_at "mine enter"
  intro g L' h' F' N' B' X' T' _ HG _
  clear F X T B
  (try dsimp only)
  (try k_fold)
  cases hi with
  | nil => 
    k_steps
    exact ret 0 _ [] [] n _ _ (Int.le_refl _) hk0 .nil (fun _ h => nomatch h) (Nat.le_refl _) (N' _ (.head _)).1 (ext_of HG F')
  | cons i t r =>
    k_steps
    k_dflt (refine' kl_popAt F' N' (y := .int i t) (p := []) (q := _) (k := 0) rfl ?ks rfl (.head ?_) ?_ ?_; (case ks => simp [seqIndex?]))
    · intro p hp; cases hp
    · simp only [List.length_cons] at hlen ⊢; rw [PySem.sizeLine_eq]; omega
    intro h'' F'' N''
    have hi8 := hb i (.head _)
    clear F' N'
    k_steps
    refine ret _ _ _ _ (n + 1) _ _ (Int.fmod_nonneg_of_pos _ hk0) (Int.fmod_lt_of_pos _ hk0) r (fun x hx => hb x (.tail _ hx)) (Nat.le_succ _) (N'' _ (.head _)).1 (ext_of HG F'')

theorem take_news {Q : Value → Shared → Prop} {D : Addr} {vs : List Value} {n : Nat} {k : Int} {u : Tok} {news : List (Addr × Obj)} {gf : Obj → List (Addr × Obj)}
  (B : Below A₀ base outer h₀) (F : Fr h₀ L s.heap m) (X : (Mine.hd.heap_39 w.params).In h₀) (T : Top Mine.hd.view_39 loose mean mg mb h₀) (hk : cs.kind = .function)
  (N : News h₀ L s.heap news) (U : UpdF D (listOf vs.toArray n) news gf) (hv : Digs vs) (hk0 : 0 < k) (hk8 : k ≤ 8) (hdp : dp + 5 < recursionLimit) (hun : un + 50 < cLine)
  (ret : ∀ r t vs' n' h' tk', 0 ≤ r → r < k → Digs vs' → Fr h₀ L h' m → News h₀ L h' (gf (listOf vs'.toArray n')) → Q (.int r t) {s with heap := h', toks := tk'})
  : wpAny (model pw w) (ktrTop dp un gd cn cs L a ccd cl outer) (call (.ref 343) [.ref D, .int k u]) Q E s := by
  obtain ⟨ns, hi, hb, hlen⟩ := hv
  obtain ⟨pre, post, rfl, hg, h1, h2⟩ := U.split
  have z := N (D, listOf vs.toArray n) (List.mem_append_right _ (.head _))
  refine take_spec B F X T hk z.1 z.2.2 z.2.1 hi hb hlen hk0 hk8 hdp hun fun r t vs' ns' n' h' tk' r0 r1 hi' hb' hl' hd' x => ?_
  refine ret r t vs' n' h' tk' r0 r1 ⟨ns', hi', hb', Nat.le_trans hl' hlen⟩ (x.fr F (by simpa using Ne.symm z.2.1) (by simpa using z.2.2)) ?_
  rw [hg]
  intro p hp
  rcases List.mem_append.mp hp with hp | hp
  · exact (x.news (news := pre) (fun p hp => N p (List.mem_append_left _ hp)) (fun p hp => by simpa using h1 p hp)) p hp
  · rcases List.mem_cons.mp hp with rfl | hp
    · exact ⟨hd', z.2⟩
    · exact (x.news (news := post) (fun p hp => N p (List.mem_append_right _ (.tail _ hp))) (fun p hp => by simpa using h2 p hp)) p hp
end
end Mine
-- Leaf
namespace Mine
local macro_rules | `(tactic| wtm_at "mine enter") => `(tactic| (refine' code_mine ?k1 ?k2 ?k3 ?k4 ?k5 ?kA ?kF ?kK ?k6 ?k7 ?k8 ?k9 ?kB ?_ ?c2 ?c3 ?c4 ?c5; (case kA => exact rfl); (case kF => exact rfl); (case kK => first | exact rfl | assumption); (case k1 => k_asm); (case k2 => k_asm); (case k3 => k_asm); (case k4 => assumption); (case k5 => k_asm); (case k6 => k_is); (case k7 => k_is); (case k8 => ktr_room); (case k9 => first | exact BindsTo.of_eq rfl | exact binds_K (by k_in) rfl (by k_is) rfl rfl rfl); (case c5 => decide); (case kB => exact locs rfl); (case c2 => exact rfl); (case c3 => exact rfl); (case c4 => exact rfl); k_whole))
local macro_rules | `(tactic| k_room) => `(tactic| ktr_room)
structure LeafEs (es : List DictEntry) (p v : Str) : Prop where
  pre : ∃ t, getL "_prefix" es = some (some (.str p t))
  val : ∃ t, getL "value" es = some (some (.str v t))
  par : getL "parent" es = some none
  chg : getL "was_changed" es = some none
  len : es.length ≤ 10
section
variable {w : World} {A₀ : Around} {s : Shared} {L a : Addr} {h₀ base : Heap} {m mg mb : Str → Option Value} {mean : ExcName → Option Value} {loose : List Str}
  {dp un : Nat} {gd : Option (List Code)} {cn : Str} {cs : Scope} {ccd : Value} {cl : List (Str × Addr)} {outer : List Env} {E : Value → Shared → Prop}
set_option maxHeartbeats 4000000 in
theorem leaf_made {Q : Value → Shared → Prop} {tp tq : Addr} {k : Int} {p v : Str} {u u1 u2 u3 u4 : Tok}
  (B : Below A₀ base outer h₀) (F : Fr h₀ L s.heap m) (X : (Mine.hd.heap_39 w.params).In h₀) (T : Top Mine.hd.view_39 loose mean mg mb h₀) (hk : cs.kind = .function)
  (htp : s.heap.get? tp = some (tupOf [.str p u1, .ref tq])) (htq : s.heap.get? tq = some (tupOf [.int 1 u2, .int 0 u3])) (hp0 : h₀.get? tp = none) (hq0 : h₀.get? tq = none) (hpL : tp ≠ L) (hqL : tq ≠ L)
  (hk0 : 0 ≤ k) (hk1 : k < 256)
  (hdp : dp + 20 < recursionLimit) (hun : un + 200 < cLine)
  (ret : ∀ x dx es n h' tk', s.heap.objs.size ≤ dx → dx < x → IsObj h' x 327 dx es n → LeafEs es p v → Ext [] s.heap h' → Q (.ref x) {s with heap := h', toks := tk'})
  : wpAny (model pw w) (ktrTop dp un gd cn cs L a ccd cl outer) (call (.ref 327) [.int k u, .str v u4, .ref tp]) Q E s := by
  refine wpAny_call ?_
  have N0 : News h₀ L s.heap [(tp, tupOf [.str p u1, .ref tq]), (tq, tupOf [.int 1 u2, .int 0 u3])] := fun q hq => by
    rcases List.mem_cons.mp hq with rfl | hq
    · exact ⟨htp, hpL, hp0⟩
    · rw [List.mem_singleton.mp hq]; exact ⟨htq, hqL, hq0⟩
  k_dflt (refine' make_raw F N0 X ?a ?b ?c ?_; (case a => k_is); (case b => k_is); (case c => k_is); k_whole)
  intro x dx h2 hdx lx hsz E2 F2 N2 lo2
  k_lt lo2
  k_lt2 lx
  clear F N0
  k_dflt wtm_at "mine enter"
  intro g L' h' F' N' B' X' T' l1 HG hL'
  k_lt l1
  have hl257 : g.IsList 257 ([] : List Value).toArray := lstK X' (by k_dflt k_is)
  clear F2 X T B N2
  (try dsimp only)
  (try k_fold)
  k_steps
  rename_i F9 N9
  refine ⟨rfl, ?_⟩
  have o1 := (N9 (x, instObj 327 dx) (by k_mem)).1
  have o2 := (N9 (dx, dictOf _ _) (by k_mem)).1
  refine ret x dx _ _ _ _ (Nat.le_of_eq hdx.symm) lx ⟨o1, o2⟩ ⟨⟨_, by k_dflt k_get⟩, ⟨_, by k_dflt k_get⟩, by k_dflt k_get, by k_dflt k_get, Nat.le_of_ble_eq_true rfl⟩ (fun b o _ e => ?_)
  have np := (N9 (tp, _) (by k_mem)).1
  have nq := (N9 (tq, _) (by k_mem)).1
  have hb := ltN (Heap.lt_size e)
  have hdx' := hdx
  by_cases h1 : b = tp
  · subst h1; rw [htp] at e; cases e; exact np
  by_cases h2 : b = tq
  · subst h2; rw [htq] at e; cases e; exact nq
  refine ext_of HG F9 b o ?_ (E2 b o (by simp) e)
  simp only [List.map_cons, List.map_nil, List.mem_cons, List.not_mem_nil, or_false, not_or]
  exact ⟨neN (by omega), neN (by omega), h1, h2⟩
end
end Mine
namespace Mine
local macro_rules | `(tactic| wtm_at "mine enter") => `(tactic| (refine' code_mine ?k1 ?k2 ?k3 ?k4 ?k5 ?kA ?kF ?kK ?k6 ?k7 ?k8 ?k9 ?kB ?_ ?c2 ?c3 ?c4 ?c5; (case kA => exact rfl); (case kF => exact rfl); (case kK => first | exact rfl | assumption); (case k1 => k_asm); (case k2 => k_asm); (case k3 => k_asm); (case k4 => assumption); (case k5 => k_asm); (case k6 => k_is); (case k7 => k_is); (case k8 => ktr_room); (case k9 => first | exact BindsTo.of_eq rfl | exact binds_K (by k_in) rfl (by k_is) rfl rfl rfl); (case c5 => decide); (case kB => exact locs rfl); (case c2 => exact rfl); (case c3 => exact rfl); (case c4 => exact rfl); k_whole))
local macro_rules | `(tactic| k_room) => `(tactic| ktr_room)
local macro_rules | `(tactic| wtm_at "mine enterR") => `(tactic| (refine' code_mineR ?k1 ?k2 ?k3 ?k4 ?k5 ?kA ?kF ?kK ?k6 ?k7 ?k8 ?k9 ?kB ?_ ?c2 ?c3 ?c4 ?c5; (case kA => exact rfl); (case kF => exact rfl); (case kK => first | exact rfl | assumption); (case k1 => k_asm); (case k2 => k_asm); (case k3 => k_asm); (case k4 => assumption); (case k5 => k_asm); (case k6 => k_is); (case k7 => k_is); (case k8 => ktr_room); (case k9 => first | exact BindsTo.of_eq rfl | exact binds_K (by k_in) rfl (by k_is) rfl rfl rfl); (case c5 => decide); (case kB => exact locs rfl); (case c2 => exact rfl); (case c3 => exact rfl); (case c4 => exact rfl); k_whole))
local macro_rules | `(tactic| wtm_at "mine enterC") => `(tactic| (refine' code_mineC ?k1 ?k2 ?k3 ?k4 ?k5 ?kA ?kF ?kK ?k6 ?k7 ?k8 ?k9 ?kB ?kD ?_ ?c2 ?c3 ?c4; (case kA => exact rfl); (case kF => exact rfl); (case kK => first | exact rfl | assumption); (case k1 => k_asm); (case k2 => k_asm); (case k3 => k_asm); (case k4 => assumption); (case k5 => k_asm); (case k6 => k_is); (case k7 => k_is); (case k8 => ktr_room); (case k9 => first | exact BindsTo.of_eq rfl | exact binds_K (by k_in) rfl (by k_is) rfl rfl rfl); (case kB => exact rfl); (case kD => decide +kernel); (case c2 => exact rfl); (case c3 => exact rfl); (case c4 => exact rfl); k_whole))
local macro_rules | `(tactic| k_all) => `(tactic| first | (with_reducible assumption) | ((with_reducible show ∀ p ∈ Off _ _, _); exact off_ne (by k_mem)) | (refine' Under.ne ?u ?v; (case u => with_reducible assumption); (case v => omega)) | exact fun p hp => Nat.ne_of_lt (allLt_mem (And.right (by with_reducible assumption)) p hp) | exact fun p hp => Nat.ne_of_lt (allLt_mem (And.right (And.right (by with_reducible assumption))) p hp))
local macro_rules | `(tactic| k_mem) => `(tactic| assumption)
local macro_rules | `(tactic| k_in) => `(tactic| first | with_reducible assumption | exact Frag.In.keeps (by k_asm) (Fr.keep (by k_asm)))
local macro_rules | `(tactic| k_get) => `(tactic| with_reducible assumption)
local macro_rules | `(tactic| wtm_at "setAttr ref") => `(tactic| (k_here; k_dflt (refine' set_dict ?k1 ?k2 ?k3 ?k4 ?k5 ?k6 ?k7 ?k8 ?k9 ?k10 ?k11 ?k12 ?k13 ?_; (case k1 => k_asm); (case k2 => k_asm); (case k3 => k_asm); (case k4 => k_inst); (case k5 => exact rfl); (case k6 => k_is); (case k7 => k_is); (case k8 => k_is); (case k9 => k_is); (case k10 => exact getL_some (by with_reducible assumption)); (case k11 => exact rfl); (case k12 => k_upd); (case k13 => exact putL_le (by with_reducible assumption)); k_whole; intro h' F' N'; (try k_sweep))))
local macro_rules | `(tactic| wtm_at "call ref") => `(tactic| (k_here; k_dflt (refine' take_news ?k1 ?k2 ?k3 ?k4 ?kK ?k5 ?kU ?kv ?ka ?kb ?kc ?kd ?_; (case k1 => k_asm); (case k2 => k_asm); (case k3 => k_asm); (case k4 => k_asm); (case kK => first | exact rfl | assumption); (case k5 => k_asm); (case kU => k_updF); (case kv => k_asm); (case ka => decide); (case kb => decide); (case kc => ktr_room); (case kd => ktr_units); k_whole; intro r' t' vs' n' h' tk' r0' r1' hv' F' N'; (try k_sweep))))
-- Node
section TX_Node
/-- a child that is handed in -/
structure Kd where
  c : Addr
  C : Addr
  d : Addr
  es : List DictEntry
  n : Nat
structure KdOk (h : Heap) (k : Kd) : Prop where
  io : IsObj h k.c k.C k.d k.es k.n
  cls : k.C = 247 ∨ k.C = 327
  par : getL "parent" k.es = some none
  len : k.es.length ≤ 40
def kdLed (k : Kd) : List (Addr × Obj) := [(k.c, instObj k.C k.d), (k.d, dictOf k.es k.n)]
structure NodeEs (es : List DictEntry) (l : Addr) : Prop where
  chd : getL "children" es = some (some (.ref l))
  par : getL "parent" es = some none
  chg : getL "was_changed" es = some none
  ins : getL "insert_child" es = some none
  cgd : getL "changed" es = some none
  len : es.length ≤ 12
section
variable {w : World} {A₀ : Around} {s : Shared} {L a : Addr} {h₀ base : Heap} {m mg mb : Str → Option Value} {mean : ExcName → Option Value} {loose : List Str}
  {dp un : Nat} {gd : Option (List Code)} {cn : Str} {cs : Scope} {ccd : Value} {cl : List (Str × Addr)} {outer : List Env} {E : Value → Shared → Prop}
set_option maxHeartbeats 4000000 in
theorem node_made {Q : Value → Shared → Prop} {lc : Addr} {k : Int} {kids : List Kd} {nl : Nat} {u : Tok}
  (B : Below A₀ base outer h₀) (F : Fr h₀ L s.heap m) (X : (Mine.hd.heap_39 w.params).In h₀) (T : Top Mine.hd.view_39 loose mean mg mb h₀) (hk : cs.kind = .function)
  (hlc : s.heap.get? lc = some (listOf (kids.map fun k : Kd => Value.ref k.c).toArray nl)) (hkids : ∀ k ∈ kids, KdOk s.heap k)
  (hfr : ∀ k ∈ kids, h₀.get? k.c = none ∧ h₀.get? k.d = none ∧ k.c ≠ L ∧ k.d ≠ L) (hnd : (kids.map (·.d)).Nodup) (hlen : kids.length ≤ 10)
  (hk0 : 256 ≤ k)
  (hdp : dp + 20 < recursionLimit) (hun : un + 200 < cLine)
  (ret : ∀ x dx l es n nl' h' tk', s.heap.objs.size ≤ dx → dx < x → x < l → IsObj h' x 247 dx es n → NodeEs es l → h'.get? l = some (listOf (kids.map fun k : Kd => Value.ref k.c).toArray nl') → (∀ k ∈ kids, ∃ es' n', Put "parent" (.ref x) k.es es' ∧ h'.get? k.d = some (dictOf es' n')) →
    Ext (kids.map (·.d)) s.heap h' → Q (.ref x) {s with heap := h', toks := tk'})
  : wpAny (model pw w) (ktrTop dp un gd cn cs L a ccd cl outer) (call (.ref 247) [.int k u, .ref lc]) Q E s := by
  refine wpAny_call ?_
  have N0 : News h₀ L s.heap (kids.flatMap kdLed) := fun q hq => by
    obtain ⟨kd, hkd, hq⟩ := List.mem_flatMap.mp hq
    have ok := hkids kd hkd
    have fr := hfr kd hkd
    rcases List.mem_cons.mp hq with rfl | hq
    · exact ⟨ok.io.obj, fr.2.2.1, fr.1⟩
    · rw [List.mem_singleton.mp hq]; exact ⟨ok.io.dct, fr.2.2.2, fr.2.1⟩
  k_dflt (refine' make_raw F N0 X ?a ?b ?c ?_; (case a => k_is); (case b => k_is); (case c => k_is); k_whole)
  intro x dx h2 hdx lx hsz E2 F2 N2 lo2
  have U2 : Under dx (kids.flatMap kdLed) := lo2
  k_lt2 lx
  clear F N0
  k_dflt wtm_at "mine enter"
  intro g L' h' F' N' B' X' T' l1 HG hL'
  have hllc : g.IsList lc (kids.map fun k : Kd => Value.ref k.c).toArray := ⟨_, HG _ _ (E2 _ _ (by simp) hlc) (by
    intro hm
    obtain ⟨p, hp, e⟩ := List.mem_map.mp hm
    rcases List.mem_cons.mp hp with rfl | hp
    · exact ne_old hlc (Nat.le_trans (Nat.le_of_eq hdx.symm) (Nat.le_of_lt lx)) e
    rcases List.mem_cons.mp hp with rfl | hp
    · exact ne_old hlc (Nat.le_of_eq hdx.symm) e
    · obtain ⟨kd, hkd, hq⟩ := List.mem_flatMap.mp hp
      have ok := hkids kd hkd
      rcases List.mem_cons.mp hq with rfl | hq
      · exact ne_cls ok.io.obj hlc (fun e => nomatch e) e
      · rw [List.mem_singleton.mp hq] at e
        exact ne_cls ok.io.dct hlc (fun e => by injection e with e; revert e; decide) e), rfl, _, rfl⟩
  k_lt l1
  clear F2 X T B N2
  (try dsimp only)
  (try k_fold)
  k_steps
  rename_i nd _ od _ _ _ _ _ ln _ _ D cD _ lD h6 F6 N6
  have hN6 : ∃ es1, es1.length ≤ 10 ∧ getL "children" es1 = some (some (.ref D)) ∧ getL "parent" es1 = some none ∧ getL "was_changed" es1 = some none ∧ getL "fixers_applied" es1 = some none ∧ getL "insert_child" es1 = some none ∧ getL "changed" es1 = some none ∧ News g L' h6 ((D, listOf (kids.map fun k : Kd => Value.ref k.c).toArray cD) :: (nd, od) :: (x, instObj 247 dx) :: (dx, dictOf es1 3) :: kids.flatMap kdLed) :=
    ⟨_, Nat.le_of_ble_eq_true rfl, by k_dflt k_get, by k_dflt k_get, by k_dflt k_get, by k_dflt k_get, by k_dflt k_get, by k_dflt k_get, N6⟩
  clear N6
  obtain ⟨es1, hes1, hch, hpar, hwc, hfx, hins, hcgd, N6⟩ := hN6
  refine iter_listM (fun i news => (x, instObj 247 dx) ∈ news ∧ (dx, dictOf es1 3) ∈ news ∧ (D, listOf (kids.map fun k : Kd => Value.ref k.c).toArray cD) ∈ news ∧ ∀ j k, kids[j]? = some k → (k.c, instObj k.C k.d) ∈ news ∧ if j < i then ∃ es' n', Put "parent" (.ref x) k.es es' ∧ (k.d, dictOf es' n') ∈ news else (k.d, dictOf k.es k.n) ∈ news) rfl F6 N6 (N6 _ (.head _)).1 (N6 _ (.head _)).2.1 ?_ ?_ ?_
  · refine ⟨.tail _ (.tail _ (.head _)), .tail _ (.tail _ (.tail _ (.head _))), .head _, fun j k hj => ?_⟩
    have hm := List.mem_of_getElem? hj
    rw [if_neg (Nat.not_lt_zero _)]
    have sub : ∀ p ∈ kdLed k, p ∈ kids.flatMap kdLed := fun p hp => List.mem_flatMap.mpr ⟨k, hm, hp⟩
    exact ⟨.tail _ (.tail _ (.tail _ (.tail _ (sub _ (.head _))))), .tail _ (.tail _ (.tail _ (.tail _ (sub _ (.tail _ (.head _))))))⟩
  · intro i v news₁ h tk I oI hv hJ F N hI hIs hI0 hIL hD hoff
    obtain ⟨mx, mdx, mD, hkd⟩ := hJ
    rw [List.getElem?_map] at hv
    obtain ⟨kd, hkd', rfl⟩ := Option.map_eq_some_iff.mp hv
    have memk : kd ∈ kids := List.mem_of_getElem? hkd'
    have ok := hkids kd memk
    have cd := ok.io.ne
    obtain ⟨mc, md⟩ := hkd i kd hkd'
    rw [if_neg (Nat.lt_irrefl _)] at md
    have kdlt := ltN (Nat.lt_of_lt_of_le (Heap.lt_size ok.io.dct) (Nat.le_of_eq hdx.symm))
    have oDd : @Ne Nat kd.d D := fun e => by omega
    have oDx : @Ne Nat kd.d x := fun e => by omega
    have oDdx : @Ne Nat kd.d dx := fun e => by omega
    have oDI : @Ne Nat kd.d I := fun e => hoff _ md e
    have pk := ok.par
    have lk : kd.es.length ≤ 60 := Nat.le_trans ok.len (by decide)
    have N9 : News g L' h ((kd.c, instObj kd.C kd.d) :: (kd.d, dictOf kd.es kd.n) :: Off [kd.d] ((D, listOf (kids.map fun k : Kd => Value.ref k.c).toArray cD) :: (I, oI) :: news₁)) := fun p hp => by
      rcases List.mem_cons.mp hp with rfl | hp
      · exact N _ mc
      rcases List.mem_cons.mp hp with rfl | hp
      · exact N _ md
      · have hp := (mem_off.mp hp).1
        rcases List.mem_cons.mp hp with rfl | hp
        · exact N _ mD
        rcases List.mem_cons.mp hp with rfl | hp
        · exact ⟨hI, hIL, hI0⟩
        · exact N _ hp
    clear N
    obtain ⟨kc, kC, kdd, kes, kn⟩ := kd
    dsimp only at *
    obtain ⟨C9, hC9⟩ : ∃ C9, C9 = kC := ⟨_, rfl⟩
    rcases ok.cls with hC | hC
    all_goals (
      dsimp only at hC
      subst hC
      k_steps)
    all_goals (
      rename_i h9 F9 N9
      obtain ⟨es9, n9, hput, N9⟩ : ∃ es' n', Put "parent" (.ref x) kes es' ∧ News g L' h9 ((kc, instObj C9 kdd) :: (kdd, dictOf es' n') :: Off [kdd] ((D, listOf (kids.map fun k : Kd => Value.ref k.c).toArray cD) :: (I, oI) :: news₁)) := by rw [hC9]; exact ⟨_, _, ⟨_, _, rfl⟩, N9⟩
      refine MEnd.go (v' := some (.ref kc)) (news' := (kc, instObj C9 kdd) :: (kdd, dictOf es9 n9) :: Off [kdd] news₁) F9 (fun p hp => N9 p ?_) (N9 (I, oI) ?_).1 (N9 (D, _) ?_).1 (fun p hp => ?_) ?_ rfl
      · rcases List.mem_cons.mp hp with rfl | hp
        · exact .head _
        rcases List.mem_cons.mp hp with rfl | hp
        · exact .tail _ (.head _)
        · have hp := mem_off.mp hp
          exact .tail _ (.tail _ (mem_off.mpr ⟨.tail _ (.tail _ hp.1), hp.2⟩))
      · exact .tail _ (.tail _ (mem_off.mpr ⟨.tail _ (.head _), by simpa using Ne.symm oDI⟩))
      · exact .tail _ (.tail _ (mem_off.mpr ⟨.head _, by simpa using Ne.symm oDd⟩))
      · subst hC9
        rcases List.mem_cons.mp hp with rfl | hp
        · exact hoff _ mc
        rcases List.mem_cons.mp hp with rfl | hp
        · exact oDI
        · exact hoff _ (mem_off.mp hp).1
      · refine ⟨.tail _ (.tail _ (mem_off.mpr ⟨mx, by simpa using Ne.symm oDx⟩)), .tail _ (.tail _ (mem_off.mpr ⟨mdx, by simpa using Ne.symm oDdx⟩)), .tail _ (.tail _ (mem_off.mpr ⟨mD, by simpa using Ne.symm oDd⟩)), fun j k hj => ?_⟩
        subst hC9
        by_cases hji : j = i
        · subst hji
          rw [hkd'] at hj; cases hj
          exact ⟨.head _, by rw [if_pos (Nat.lt_succ_self _)]; exact ⟨_, _, hput, .tail _ (.head _)⟩⟩
        · obtain ⟨q1, q2⟩ := hkd j k hj
          have okk := hkids k (List.mem_of_getElem? hj)
          have hne : k.d ≠ kdd := fun e => hji (by
            have h1 : (kids.map (·.d))[j]? = some kdd := by rw [List.getElem?_map, hj]; exact congrArg some e
            have h2 : (kids.map (·.d))[i]? = some kdd := by rw [List.getElem?_map, hkd']; rfl
            exact (List.getElem?_inj (by
              rw [List.length_map]
              rcases Nat.lt_or_ge j kids.length with q | q
              · exact q
              · rw [List.getElem?_eq_none q] at hj; cases hj) hnd).mp (h1.trans h2.symm))
          have hcd : k.c ≠ kdd := fun e => ne_cls okk.io.obj ok.io.dct (fun e => nomatch e) e
          refine ⟨.tail _ (.tail _ (mem_off.mpr ⟨q1, by simpa using hcd⟩)), ?_⟩
          split at q2
          · rename_i hlt
            rw [if_pos (Nat.lt_succ_of_lt hlt)]
            obtain ⟨es', n', hp, hm⟩ := q2
            exact ⟨es', n', hp, .tail _ (.tail _ (mem_off.mpr ⟨hm, by simpa using hne⟩))⟩
          · rename_i hlt
            rw [if_neg (by omega)]
            exact .tail _ (.tail _ (mem_off.mpr ⟨q2, by simpa using hne⟩)))
  · intro v' news₁ h tk hJ F N
    obtain ⟨mx, mdx, mD, hkd⟩ := hJ
    rw [List.length_map] at hkd
    have lfx : es1.length ≤ 60 := Nat.le_trans hes1 (by decide)
    have N9 : News g L' h ((x, instObj 247 dx) :: (dx, dictOf es1 3) :: Off [dx] news₁) := fun p hp => by
      rcases List.mem_cons.mp hp with rfl | hp
      · exact N _ mx
      rcases List.mem_cons.mp hp with rfl | hp
      · exact N _ mdx
      · exact N _ (mem_off.mp hp).1
    clear N
    k_steps
    rename_i h9 F9 N9
    refine ⟨rfl, ?_⟩
    obtain ⟨es9, n9, hput, N9⟩ : ∃ es' n', Put "fixers_applied" .none es1 es' ∧ News g L' h9 ((x, instObj 247 dx) :: (dx, dictOf es' n') :: Off [dx] news₁) := ⟨_, _, ⟨_, _, rfl⟩, N9⟩
    have oDdx : @Ne Nat D dx := fun e => by omega
    refine ret x dx D es9 n9 cD _ _ (Nat.le_of_eq hdx.symm) lx lD.2.1 ⟨(N9 _ (.head _)).1, (N9 _ (.tail _ (.head _))).1⟩ ⟨(hput.other (by decide)).trans hch, (hput.other (by decide)).trans hpar, (hput.other (by decide)).trans hwc, (hput.other (by decide)).trans hins, (hput.other (by decide)).trans hcgd, Nat.le_trans hput.len (Nat.le_trans (Nat.succ_le_succ hes1) (by decide))⟩ (N9 _ (.tail _ (.tail _ (mem_off.mpr ⟨mD, by simpa using oDdx⟩)))).1 (fun k hk => ?_) (fun b o hb e => ?_)
    · obtain ⟨j, hj⟩ := List.mem_iff_getElem?.mp hk
      obtain ⟨q1, q2⟩ := hkd j k hj
      have hlt : j < kids.length := by
        rcases Nat.lt_or_ge j kids.length with q | q
        · exact q
        · rw [List.getElem?_eq_none q] at hj; cases hj
      rw [if_pos hlt] at q2
      obtain ⟨es', n', hp, hm⟩ := q2
      have kdlt := ltN (Nat.lt_of_lt_of_le (Heap.lt_size (hkids k hk).io.dct) (Nat.le_of_eq hdx.symm))
      have oDdx : @Ne Nat k.d dx := fun e => by omega
      exact ⟨es', n', hp, (N9 _ (.tail _ (.tail _ (mem_off.mpr ⟨hm, by simpa using oDdx⟩)))).1⟩
    · have e2 := E2 b o (by simp) e
      by_cases hm : b ∈ ((x, instObj 247 dx) :: (dx, dictOf [] 0) :: kids.flatMap kdLed).map (·.1)
      · obtain ⟨p, hp, rfl⟩ := List.mem_map.mp hm
        have hlt := ltN (Nat.lt_of_lt_of_le (Heap.lt_size e) (Nat.le_of_eq hdx.symm))
        rcases List.mem_cons.mp hp with rfl | hp
        · exact absurd hlt (by dsimp only; omega)
        rcases List.mem_cons.mp hp with rfl | hp
        · exact absurd hlt (by dsimp only; omega)
        · obtain ⟨k, hk, hq⟩ := List.mem_flatMap.mp hp
          rcases List.mem_cons.mp hq with rfl | hq
          · obtain ⟨j, hj⟩ := List.mem_iff_getElem?.mp hk
            have e0 := (hkids k hk).io.obj
            dsimp only at e e0 hlt
            rw [e0] at e; cases e
            have oDdx : @Ne Nat k.c dx := fun e => by omega
            exact (N9 _ (.tail _ (.tail _ (mem_off.mpr ⟨(hkd j k hj).1, by simpa using oDdx⟩)))).1
          · rw [List.mem_singleton.mp hq] at hb
            exact absurd (List.mem_map.mpr ⟨k, hk, rfl⟩) hb
      · exact F9.keep b o (HG b o e2 hm)
end
end TX_Node
-- Small
section TX_Small
/-- what lies where: a heap's, a ledger's -/
abbrev Where := Addr → Obj → Prop
abbrev Gt (h : Heap) : Where := fun a o => h.get? a = some o
abbrev Gl (l : List (Addr × Obj)) : Where := fun a o => (a, o) ∈ l
/-- a leaf within a small node -/
structure Lf where
  x : Addr
  d : Addr
  es : List DictEntry
  n : Nat
  t : Str
/-- what a leaf's text hangs on -/
def LfText (es : List DictEntry) (t : Str) : Prop := ∃ p v tp tv, getL "_prefix" es = some (some (.str p tp)) ∧ getL "value" es = some (some (.str v tv)) ∧ t = p ++ v
structure LfIn (G : Where) (lo hi d : Addr) (lf : Lf) : Prop where
  ob : G lf.x (instObj 327 lf.d)
  dc : G lf.d (dictOf lf.es lf.n)
  tx : LfText lf.es lf.t
  sz : lf.t.length ≤ 60
  ln : lf.es.length ≤ 30
  rx : lo ≤ lf.x ∧ lf.x < hi ∧ lf.x ≠ d
  rd : lo ≤ lf.d ∧ lf.d < hi ∧ lf.d ≠ d
/-- a small leaf or node, its dict, the span of addresses it holds, its text -/
structure Sm where
  x : Addr
  C : Addr
  d : Addr
  lo : Addr
  hi : Addr
  txt : Str
def Inner (G : Where) (sm : Sm) (es : List DictEntry) : Prop :=
  (sm.C = 327 ∧ LfText es sm.txt ∧ sm.txt.length ≤ 60) ∨
  (sm.C = 247 ∧ ∃ (l : Addr) (nl : Nat) (lfs : List Lf), getL "children" es = some (some (.ref l)) ∧ G l (listOf (lfs.map fun k : Lf => Value.ref k.x).toArray nl) ∧ sm.lo ≤ l ∧ l < sm.hi ∧ l ≠ sm.d ∧ lfs.length ≤ 2 ∧ (∀ lf ∈ lfs, LfIn G sm.lo sm.hi sm.d lf) ∧ sm.txt = Txt.join "" (lfs.map fun k : Lf => k.t))
structure SmOk (G : Where) (sm : Sm) (par : Option Value) : Prop where
  ex : ∃ es n, G sm.x (instObj sm.C sm.d) ∧ G sm.d (dictOf es n) ∧ getL "parent" es = some par ∧ getL "was_changed" es = some none ∧ es.length ≤ 14 + par.toList.length ∧ Inner G sm es
  rx : sm.lo ≤ sm.x ∧ sm.x < sm.hi
  rd : sm.lo ≤ sm.d ∧ sm.d < sm.hi
  ne : sm.x ≠ sm.d
theorem SmOk.cls {G : Where} {sm : Sm} {par : Option Value} (o : SmOk G sm par) : sm.C = 247 ∨ sm.C = 327 := by
  obtain ⟨_, _, _, _, _, _, _, i⟩ := o.ex
  rcases i with i | i
  · exact .inr i.1
  · exact .inl i.1
/-- the span stands, but the dict, which keeps its text's words -/
theorem Inner.keeps {G G' : Where} {sm : Sm} {es es' : List DictEntry} (i : Inner G sm es) (k : ∀ b o, sm.lo ≤ b → b < sm.hi → b ≠ sm.d → G b o → G' b o)
    (e1 : getL "_prefix" es' = getL "_prefix" es) (e2 : getL "value" es' = getL "value" es) (e3 : getL "children" es' = getL "children" es) : Inner G' sm es' := by
  rcases i with ⟨hC, ⟨p, v, tp, tv, a, b, c⟩, sz⟩ | ⟨hC, l, nl, lfs, a, b, c, d, e, f, g, i⟩
  · exact .inl ⟨hC, ⟨p, v, tp, tv, e1.trans a, e2.trans b, c⟩, sz⟩
  · exact .inr ⟨hC, l, nl, lfs, e3.trans a, k l _ c d e b, c, d, e, f, fun lf hlf => let q := g lf hlf; ⟨k _ _ q.rx.1 q.rx.2.1 q.rx.2.2 q.ob, k _ _ q.rd.1 q.rd.2.1 q.rd.2.2 q.dc, q.tx, q.sz, q.ln, q.rx, q.rd⟩, i⟩
theorem SmOk.keeps {G G' : Where} {sm : Sm} {par : Option Value} (o : SmOk G sm par) (k : ∀ b o, sm.lo ≤ b → b < sm.hi → G b o → G' b o) : SmOk G' sm par := by
  obtain ⟨es, n, io, id, a, b, c, i⟩ := o.ex
  exact ⟨⟨es, n, k _ _ o.rx.1 o.rx.2 io, k _ _ o.rd.1 o.rd.2 id, a, b, c, i.keeps (fun b o h1 h2 _ e => k b o h1 h2 e) rfl rfl rfl⟩, o.rx, o.rd, o.ne⟩
theorem SmOk.mono {G G' : Where} {sm : Sm} {par : Option Value} (o : SmOk G sm par) (k : ∀ b o, G b o → G' b o) : SmOk G' sm par := o.keeps fun b o _ _ e => k b o e
/-- its dict alone is turned: parent is set -/
theorem SmOk.put {G G' : Where} {sm : Sm} {v : Value} (o : SmOk G sm none) (k : ∀ b o, sm.lo ≤ b → b < sm.hi → b ≠ sm.d → G b o → G' b o)
    (hd : ∀ es n, G sm.d (dictOf es n) → ∃ es' n', Put "parent" v es es' ∧ G' sm.d (dictOf es' n')) : SmOk G' sm (some v) := by
  obtain ⟨es, n, io, id, a, b, c, i⟩ := o.ex
  obtain ⟨es', n', p, e⟩ := hd es n id
  exact ⟨⟨es', n', k _ _ o.rx.1 o.rx.2 o.ne io, e, p.self, (p.other (by decide)).trans b, Nat.le_trans p.len (Nat.succ_le_succ c), i.keeps k (p.other (by decide)) (p.other (by decide)) (p.other (by decide))⟩, o.rx, o.rd, o.ne⟩
/-- what it hangs on, as a ledger -/
theorem SmOk.led {G : Where} {sm : Sm} {par : Option Value} (o : SmOk G sm par) : ∃ led : List (Addr × Obj), (∀ p ∈ led, G p.1 p.2 ∧ sm.lo ≤ p.1 ∧ p.1 < sm.hi) ∧ SmOk (Gl led) sm par := by
  obtain ⟨es, n, io, id, a, b, c, i⟩ := o.ex
  rcases i with ⟨hC, tx, sz⟩ | ⟨hC, l, nl, lfs, e1, e2, e3, e4, e5, e6, e7, e8⟩
  · refine ⟨[(sm.x, instObj sm.C sm.d), (sm.d, dictOf es n)], fun p hp => ?_, ⟨es, n, .head _, .tail _ (.head _), a, b, c, .inl ⟨hC, tx, sz⟩⟩, o.rx, o.rd, o.ne⟩
    rcases List.mem_cons.mp hp with rfl | hp
    · exact ⟨io, o.rx⟩
    · rw [List.mem_singleton.mp hp]; exact ⟨id, o.rd⟩
  · have sub : ∀ lf ∈ lfs, (lf.x, instObj 327 lf.d) ∈ lfs.flatMap (fun q : Lf => [(q.x, instObj 327 q.d), (q.d, dictOf q.es q.n)]) ∧ (lf.d, dictOf lf.es lf.n) ∈ lfs.flatMap (fun q : Lf => [(q.x, instObj 327 q.d), (q.d, dictOf q.es q.n)]) :=
      fun lf h => ⟨List.mem_flatMap.mpr ⟨lf, h, .head _⟩, List.mem_flatMap.mpr ⟨lf, h, .tail _ (.head _)⟩⟩
    refine ⟨(sm.x, instObj sm.C sm.d) :: (sm.d, dictOf es n) :: (l, listOf (lfs.map fun k : Lf => Value.ref k.x).toArray nl) :: lfs.flatMap (fun q : Lf => [(q.x, instObj 327 q.d), (q.d, dictOf q.es q.n)]), fun p hp => ?_,
      ⟨es, n, .head _, .tail _ (.head _), a, b, c, .inr ⟨hC, l, nl, lfs, e1, .tail _ (.tail _ (.head _)), e3, e4, e5, e6, fun lf h => let q := e7 lf h; ⟨.tail _ (.tail _ (.tail _ (sub lf h).1)), .tail _ (.tail _ (.tail _ (sub lf h).2)), q.tx, q.sz, q.ln, q.rx, q.rd⟩, e8⟩⟩, o.rx, o.rd, o.ne⟩
    rcases List.mem_cons.mp hp with rfl | hp
    · exact ⟨io, o.rx⟩
    rcases List.mem_cons.mp hp with rfl | hp
    · exact ⟨id, o.rd⟩
    rcases List.mem_cons.mp hp with rfl | hp
    · exact ⟨e2, e3, e4⟩
    · obtain ⟨lf, h, hq⟩ := List.mem_flatMap.mp hp
      have q := e7 lf h
      rcases List.mem_cons.mp hq with rfl | hq
      · exact ⟨q.ob, q.rx.1, q.rx.2.1⟩
      · rw [List.mem_singleton.mp hq]; exact ⟨q.dc, q.rd.1, q.rd.2.1⟩
theorem build_lfs {P : Lf → List DictEntry → Nat → Prop} : ∀ lfs : List Lf, (∀ lf ∈ lfs, ∃ es n, P lf es n) →
    ∃ lfs' : List Lf, lfs'.map (fun k => Value.ref k.x) = lfs.map (fun k => Value.ref k.x) ∧ lfs'.map (·.t) = lfs.map (·.t) ∧ lfs'.length = lfs.length ∧ ∀ lf' ∈ lfs', ∃ lf ∈ lfs, lf'.x = lf.x ∧ lf'.d = lf.d ∧ lf'.t = lf.t ∧ P lf lf'.es lf'.n
  | [], _ => ⟨[], rfl, rfl, rfl, fun _ h => nomatch h⟩
  | lf :: r, h => by
    obtain ⟨es, n, hp⟩ := h lf (.head _)
    obtain ⟨r', a, b, c, d⟩ := build_lfs r fun q hq => h q (.tail _ hq)
    refine ⟨⟨lf.x, lf.d, es, n, lf.t⟩ :: r', by rw [List.map_cons, List.map_cons, a], by rw [List.map_cons, List.map_cons, b], by rw [List.length_cons, List.length_cons, c], fun q hq => ?_⟩
    rcases List.mem_cons.mp hq with rfl | hq
    · exact ⟨lf, .head _, rfl, rfl, rfl, hp⟩
    · obtain ⟨q', m, z⟩ := d q hq
      exact ⟨q', .tail _ m, z⟩
def Stop (P : Prop) : Prop := P
theorem Stop.mk {P : Prop} (h : Stop P) : P := h
section
variable {w : World} {A₀ : Around} {s : Shared} {L a : Addr} {h₀ base : Heap} {m mg mb : Str → Option Value} {mean : ExcName → Option Value} {loose : List Str}
  {dp un : Nat} {gd : Option (List Code)} {cn : Str} {cs : Scope} {ccd : Value} {cl : List (Str × Addr)} {outer : List Env} {E : Value → Shared → Prop}
theorem leaf_news {Q : Value → Shared → Prop} {tp tq : Addr} {k : Int} {p v : Str} {u u1 u2 u3 u4 : Tok} {news : List (Addr × Obj)}
  (B : Below A₀ base outer h₀) (F : Fr h₀ L s.heap m) (X : (Mine.hd.heap_39 w.params).In h₀) (T : Top Mine.hd.view_39 loose mean mg mb h₀) (hk : cs.kind = .function)
  (N : News h₀ L s.heap news) (mtp : (tp, tupOf [.str p u1, .ref tq]) ∈ news) (mtq : (tq, tupOf [.int 1 u2, .int 0 u3]) ∈ news)
  (hk0 : 0 ≤ k) (hk1 : k < 256) (hdp : dp + 20 < recursionLimit) (hun : un + 200 < cLine)
  (ret : ∀ x dx es n h' tk', (∀ p ∈ news, p.1 < dx) → dx < x → Fr h₀ L h' m → News h₀ L h' ((x, instObj 327 dx) :: (dx, dictOf es n) :: news) → LeafEs es p v → Q (.ref x) {s with heap := h', toks := tk'})
  : wpAny (model pw w) (ktrTop dp un gd cn cs L a ccd cl outer) (call (.ref 327) [.int k u, .str v u4, .ref tp]) Q E s := by
  refine leaf_made B F X T hk (N _ mtp).1 (N _ mtq).1 (N _ mtp).2.2 (N _ mtq).2.2 (N _ mtp).2.1 (N _ mtq).2.1 hk0 hk1 hdp hun fun x dx es n h' tk' hdx hx io le ex => ?_
  have F' := ex.fr F (fun h => nomatch h) (fun _ h => nomatch h)
  have new0 : ∀ b, s.heap.objs.size ≤ b → h₀.get? b = none := fun b hb => by
    cases q : h₀.get? b with
    | none => rfl
    | some o => exact absurd (Nat.lt_of_lt_of_le (Heap.lt_size (F.keep b o q)) hb) (Nat.lt_irrefl _)
  have hL := F.ns.lt
  refine ret x dx es n h' tk' (fun p hp => Nat.lt_of_lt_of_le (Heap.lt_size (N p hp).1) hdx) hx F' (fun p hp => ?_) le
  rcases List.mem_cons.mp hp with rfl | hp
  · exact ⟨io.obj, Nat.ne_of_gt (Nat.lt_of_lt_of_le hL (Nat.le_trans hdx (Nat.le_of_lt hx))), new0 _ (Nat.le_trans hdx (Nat.le_of_lt hx))⟩
  rcases List.mem_cons.mp hp with rfl | hp
  · exact ⟨io.dct, Nat.ne_of_gt (Nat.lt_of_lt_of_le hL hdx), new0 _ hdx⟩
  · exact (ex.news N (fun _ _ h => nomatch h)) p hp
end
section
variable {w : World} {A₀ : Around} {s : Shared} {L a : Addr} {h₀ base : Heap} {m mg mb : Str → Option Value} {mean : ExcName → Option Value} {loose : List Str}
  {dp un : Nat} {gd : Option (List Code)} {cn : Str} {cs : Scope} {ccd : Value} {cl : List (Str × Addr)} {outer : List Env} {E : Value → Shared → Prop}
local macro_rules | `(tactic| wtm_at "call ref") => `(tactic| (k_here; k_dflt (refine' leaf_news ?k1 ?k2 ?k3 ?k4 ?kK ?k5 ?m1 ?m2 ?ka ?kb ?kc ?kd ?_; (case k1 => k_asm); (case k2 => k_asm); (case k3 => k_asm); (case k4 => k_asm); (case kK => first | exact rfl | assumption); (case k5 => k_asm); (case m1 => k_mem); (case m2 => k_mem); (case ka => decide); (case kb => decide); (case kc => ktr_room); (case kd => ktr_units); k_whole; intro x' dx' es' n' h' tk' l1' l2' F' N' le'; (try k_lt l1'); (try k_lt2 l2'); (try k_sweep))))
local macro_rules | `(tactic| wtm_at "eval ListComp") => `(tactic| (k_here; k_dflt (refine ListComp_V (F₀ := by k_asm) (by with_unfolding_all rfl) (by decide) (by rfl) (by decide) (by rfl) ?_)))
local macro_rules | `(tactic| wtm_at "exec Assign cons ListComp") => `(tactic| (k_here; k_dflt (refine Assign_ListComp_V (F₀ := by k_asm) (by rfl) (by with_unfolding_all rfl) (by with_unfolding_all rfl) (by decide) (by rfl) (by decide) (by rfl) (by rfl) (by rfl) ?_)))
local macro_rules | `(tactic| wtm_at "call ref") => `(tactic| (k_here; (with_reducible show wpAny _ _ (call (Value.ref 247) _) _ _ _); refine Stop.mk ?_))
set_option maxHeartbeats 4000000 in
theorem small_spec {Q : Value → Shared → Prop} {D : Addr} {vs : List Value} {n : Nat} {word : Str} {u : Tok}
  (B : Below A₀ base outer h₀) (F : Fr h₀ L s.heap m) (X : (Mine.hd.heap_39 w.params).In h₀) (T : Top Mine.hd.view_39 loose mean mg mb h₀) (hk : cs.kind = .function)
  (hd : s.heap.get? D = some (listOf vs.toArray n)) (hD₀ : h₀.get? D = none) (hDL : D ≠ L) (hv : Digs vs) (hword : word.length ≤ 20)
  (hdp : dp + 40 < recursionLimit) (hun : un + 400 < cLine)
  (ret : ∀ sm vs' n' h' tk', Digs vs' → SmOk (Gt h') sm none → sm.lo = s.heap.objs.size → sm.hi = h'.objs.size → Ext [D] s.heap h' → h'.get? D = some (listOf vs'.toArray n') → Q (.ref sm.x) {s with heap := h', toks := tk'})
  : wpAny (model pw w) (ktrTop dp un gd cn cs L a ccd cl outer) (call (.ref 348) [.ref D, .str word u]) Q E s := by
  refine wpAny_call ?_
  have N : News h₀ L s.heap [(D, listOf vs.toArray n)] := fun p hp => by
    rw [List.mem_singleton.mp hp]; exact ⟨hd, hDL, hD₀⟩
  k_dflt wtm_at "mine enterC"
  intro g L' h' tk' cells' F' N' Y' B' X' T' l1 HG hL'
  k_lt l1
  k_cells Y'
  simp only [List.cons_append, List.nil_append] at N'
  clear F X T B N hd
  (try dsimp only)
  (try k_fold)
  k_steps
  · rename_i o' _ r _ vs' n' _ _ _ _ hv' _ q1 _ lq1 q2 _ lq2 x dx es nn h9 _ F9 N9 le l1 l2
    have o1 := (N9 (x, instObj 327 dx) (by k_mem)).1
    have o2 := (N9 (dx, dictOf es nn) (by k_mem)).1
    obtain ⟨⟨tp, ep⟩, ⟨tv, ev⟩, epar, ech, elen⟩ := le
    have hs1 := ltN (Heap.lt_size o1)
    have hs2 := ltN (Heap.lt_size o2)
    have e0 : ∀ b : Str, (Str.ofString "" ++ b).length = b.length := fun b => by rw [len_cat]; exact Nat.zero_add _
    refine ret ⟨x, 327, dx, s.heap.objs.size, h9.objs.size, Str.ofString "" ++ word⟩ vs' n' _ _ hv' ⟨⟨es, nn, o1, o2, epar, ech, Nat.le_trans elen (by decide), .inl ⟨rfl, ⟨_, _, tp, tv, ep, ev, rfl⟩, ?_⟩⟩, ⟨?_, hs1⟩, ⟨?_, hs2⟩, neN (Nat.ne_of_gt l2)⟩ rfl rfl (ext_of HG F9) (N9 (D, _) (by k_mem)).1
    · exact Nat.le_trans (Nat.le_of_eq (e0 word)) (Nat.le_trans hword (by decide))
    · show @LE.le Nat _ s.heap.objs.size x
      have hL2 : @Eq Nat L' s.heap.objs.size := hL'
      omega
    · show @LE.le Nat _ s.heap.objs.size dx
      have hL2 : @Eq Nat L' s.heap.objs.size := hL'
      omega
  · rename_i o' hcell _ _ _ _ _ _ _ _ _ _ r t' vs' n' h1 tk1 r0 r1 hv' F1 N1 h2 tk2 t1 u1 v1 hr F2 N2 hk2
    obtain ⟨nn, hnn, hle⟩ : ∃ nn : Nat, Builtin.Range.rangeSize 0 (1 + r) 1 = (nn : Int) ∧ nn ≤ 2 := ⟨(1 + r - 0).toNat, rangeSize_nat _ _, by omega⟩
    have hsm : Builtin.Range.small 0 (1 + r) 1 = true := by
      rcases (by omega : r = 0 ∨ r = 1) with rfl | rfl <;> rfl
    refine LCg.CompSrc.range rfl F2 N2 hr hsm hnn (Nat.le_trans hle (by decide)) fun g' => ?_
    refine comp_ind (fun i ys news => (L' + 1, o') ∈ news ∧ (D, listOf vs'.toArray n') ∈ news ∧ ∃ lfs : List Lf, ys = lfs.map (fun k => Value.ref k.x) ∧ lfs.length = i ∧ (lfs.map (·.d)).Nodup ∧ ∀ lf ∈ lfs, (lf.x, instObj 327 lf.d) ∈ news ∧ (lf.d, dictOf lf.es lf.n) ∈ news ∧ L' < lf.d ∧ lf.d < lf.x ∧ ∃ p v, LeafEs lf.es p v ∧ lf.t = p ++ v ∧ lf.t.length ≤ 60) nn ?_ ?_ nn 0 [] _ (by omega) ?_
    · intro i ys news hi hI v I oI C oC Da m₂ h tk E' hP hC hx F N off ne
      obtain ⟨mc, mD, lfs, rfl, hlen, hnd, hlf⟩ := hI
      obtain ⟨tv, rfl⟩ := hP
      clear F1 N1 F2 N2 hr hk2
      have hcell' : o'.data = .cell (some (.str word u)) := hcell
      clear hcell
      k_steps
      rename_i _ q1 _ lq1 q2 _ lq2 x dx es n9 h9 _ F9 N9 le l1 l2
      (try k_unfold)
      obtain ⟨v9, hv9, le⟩ : ∃ v9 : Str, v9.length ≤ 50 ∧ LeafEs es (Str.ofString " ") v9 := ⟨_, by
        rw [len_cat]
        have hi2 : i = 0 ∨ i = 1 := by omega
        have : (Str.ofString (toString ((0 : Int) + (i : Int)))).length ≤ 2 := by rcases hi2 with rfl | rfl <;> decide +kernel
        omega, le⟩
      refine turn_go (news' := (x, instObj 327 dx) :: (dx, dictOf es n9) :: news) F9 (fun p hp => N9 p ?_) (fun p hp => ?_) trivial ?_ rfl
      · rcases List.mem_cons.mp hp with rfl | hp
        · k_mem
        rcases List.mem_cons.mp hp with rfl | hp
        · k_mem
        rcases List.mem_cons.mp hp with rfl | hp
        · k_mem
        rcases List.mem_cons.mp hp with rfl | hp
        · k_mem
        rcases List.mem_cons.mp hp with rfl | hp
        · k_mem
        · exact .tail _ (.tail _ (.tail _ (.tail _ (.tail _ (.tail _ (.tail _ hp))))))
      · rcases List.mem_cons.mp hp with rfl | hp
        · exact ⟨neN (by dsimp only; omega), neN (by dsimp only; omega), neN (by dsimp only; omega)⟩
        rcases List.mem_cons.mp hp with rfl | hp
        · exact ⟨neN (by dsimp only; omega), neN (by dsimp only; omega), neN (by dsimp only; omega)⟩
        · exact off.mem p hp
      · have lo9 := allLt_mem l1.2.2.2.2.2
        refine ⟨.tail _ (.tail _ mc), .tail _ (.tail _ mD), lfs ++ [⟨x, dx, es, n9, Str.ofString " " ++ v9⟩], by rw [List.map_append]; rfl, by rw [List.length_append, hlen]; rfl, ?_, fun lf hl => ?_⟩
        · rw [List.map_append]
          refine List.nodup_append.mpr ⟨hnd, by simp, fun a ha b hb => ?_⟩
          obtain ⟨lf, hl, rfl⟩ := List.mem_map.mp ha
          rw [List.mem_singleton.mp hb]
          exact Nat.ne_of_lt (lo9 _ (hlf lf hl).2.1)
        · rcases List.mem_append.mp hl with hl | hl
          · obtain ⟨a1, a2, a3⟩ := hlf lf hl
            exact ⟨.tail _ (.tail _ a1), .tail _ (.tail _ a2), a3⟩
          · rw [List.mem_singleton.mp hl]
            have hc := lo9 _ mc
            refine ⟨.head _, .tail _ (.head _), Nat.lt_trans (Nat.lt_succ_self L') hc, l2, _, _, le, rfl, ?_⟩
            dsimp only
            rw [len_cat]
            have h2 : (Str.ofString " ").length = 1 := by decide +kernel
            omega
    · intro ys news hI
      obtain ⟨mc, mD, lfs, rfl, hlen, hnd, hlf⟩ := hI
      unfold LCg.FinE
      intro Dl h tk F N o1
      clear F1 N1 F2 N2 hr hk2
      k_steps
      unfold Stop
      have ek : (lfs.map fun k => (⟨k.x, 327, k.d, k.es, k.n⟩ : Kd)).map (fun k : Kd => Value.ref k.c) = lfs.map (fun k => Value.ref k.x) := by rw [List.map_map]; rfl
      have ed : (lfs.map fun k => (⟨k.x, 327, k.d, k.es, k.n⟩ : Kd)).map (fun k : Kd => k.d) = lfs.map (fun k => k.d) := by rw [List.map_map]; rfl
      have nx : ∀ lf ∈ lfs, lf.x ∉ lfs.map (fun k => k.d) := fun lf hl hm => by
        obtain ⟨q, hq, e⟩ := List.mem_map.mp hm
        exact ne_cls (N _ (.tail _ (hlf q hq).2.1)).1 (N _ (.tail _ (hlf lf hl).1)).1 (fun e => nomatch e) e
      refine node_made (kids := lfs.map fun k => (⟨k.x, 327, k.d, k.es, k.n⟩ : Kd)) (nl := (lfs.map fun k => Value.ref k.x).length) B' F X' T' rfl (by rw [ek]; exact (N _ (.head _)).1) (fun k hk => ?_) (fun k hk => ?_) (by rw [ed]; exact hnd) (by rw [List.length_map]; omega) (by decide) (by ktr_room) (by ktr_units) ?_
      · obtain ⟨lf, hl, rfl⟩ := List.mem_map.mp hk
        obtain ⟨a1, a2, a3, a4, p, v, le, _⟩ := hlf lf hl
        exact ⟨⟨(N _ (.tail _ a1)).1, (N _ (.tail _ a2)).1⟩, .inr rfl, le.par, Nat.le_trans le.len (by decide)⟩
      · obtain ⟨lf, hl, rfl⟩ := List.mem_map.mp hk
        obtain ⟨a1, a2, _⟩ := hlf lf hl
        exact ⟨(N _ (.tail _ a1)).2.2, (N _ (.tail _ a2)).2.2, (N _ (.tail _ a1)).2.1, (N _ (.tail _ a2)).2.1⟩
      · intro x dx l es n nl' h9 tk9 hdx hx hxl io nes hl9 hkid ex
        rw [ed] at ex
        rw [ek] at hl9
        obtain ⟨lfs', m1, m2, m3, m4⟩ := build_lfs (P := fun lf es n => Put "parent" (.ref x) lf.es es ∧ h9.get? lf.d = some (dictOf es n)) lfs fun lf hl => hkid ⟨lf.x, 327, lf.d, lf.es, lf.n⟩ (List.mem_map.mpr ⟨lf, hl, rfl⟩)
        have hL2 : @Eq Nat L' s.heap.objs.size := hL'
        have hsz : @LT.lt Nat _ L' h.objs.size := F.ns.lt
        have hdx' : @LE.le Nat _ h.objs.size dx := hdx
        have hx' : @LT.lt Nat _ dx x := hx
        have hxl' : @LT.lt Nat _ x l := hxl
        have s1 := ltN (Heap.lt_size hl9)
        have s2 := ltN (Heap.lt_size io.obj)
        have s3 := ltN (Heap.lt_size io.dct)
        refine ret ⟨x, 247, dx, s.heap.objs.size, h9.objs.size, Txt.join "" (lfs.map fun k : Lf => k.t)⟩ vs' n' h9 tk9 hv' ⟨⟨es, n, io.obj, io.dct, nes.par, nes.chg, Nat.le_trans nes.len (by decide), .inr ⟨rfl, l, nl', lfs', nes.chd, by rw [m1]; exact hl9, ltN' (by dsimp only; omega), s1, neN (by dsimp only; omega), by omega, fun lf' hl' => ?_, by rw [← m2]⟩⟩, ⟨ltN' (by dsimp only; omega), s2⟩, ⟨ltN' (by dsimp only; omega), s3⟩, neN (by dsimp only; omega)⟩ rfl rfl ?_ ?_
        · obtain ⟨lf, hl, ex', ed', et', hput, hdct⟩ := m4 lf' hl'
          obtain ⟨a1, a2, a3, a4, p, v, le, et, sz⟩ := hlf lf hl
          have q1 : h9.get? lf.x = some (instObj 327 lf.d) := ex _ _ (nx lf hl) (N _ (.tail _ a1)).1
          have a3' : @LT.lt Nat _ L' lf.d := a3
          have a4' : @LT.lt Nat _ lf.d lf.x := a4
          have b1 := ltN (Heap.lt_size q1)
          have b2 := ltN (Heap.lt_size hdct)
          have b3 := ltN (Heap.lt_size (N _ (.tail _ a2)).1)
          have b4 := ltN (Heap.lt_size (N _ (.tail _ a1)).1)
          dsimp only at b3 b4
          obtain ⟨⟨tp, ep⟩, ⟨tv, ev⟩, _, _, el⟩ := le
          refine ⟨by rw [ex', ed']; exact q1, by rw [ed']; exact hdct, ⟨p, v, tp, tv, (hput.other (by decide)).trans ep, (hput.other (by decide)).trans ev, et'.trans et⟩, by rw [et']; exact sz, Nat.le_trans hput.len (Nat.le_trans (Nat.succ_le_succ el) (by decide)), ?_, ?_⟩
          · rw [ex']; exact ⟨ltN' (by dsimp only; omega), b1, neN (by dsimp only; omega)⟩
          · rw [ed']; exact ⟨ltN' (by dsimp only; omega), b2, neN (by dsimp only; omega)⟩
        · intro b o hb e
          have eg := HG b o e (by simpa using hb)
          refine ex b o (fun hm => ?_) (F.keep b o eg)
          obtain ⟨q, hq, rfl⟩ := List.mem_map.mp hm
          have := (N _ (.tail _ (hlf q hq).2.1)).2.2
          rw [this] at eg; cases eg
        · refine ex D _ (fun hm => ?_) (N _ (.tail _ mD)).1
          obtain ⟨q, hq, e⟩ := List.mem_map.mp hm
          exact ne_cls (N _ (.tail _ (hlf q hq).2.1)).1 (N _ (.tail _ mD)).1 (fun e => by injection e with e; revert e; decide) e
    · exact ⟨.head _, .tail _ (.head _), [], rfl, rfl, List.nodup_nil, fun _ h => nomatch h⟩
end
end TX_Small
-- Digits
section TX_Digits
section
variable {w : World} {A₀ : Around} {s : Shared} {L a : Addr} {h₀ base : Heap} {m mg mb : Str → Option Value} {mean : ExcName → Option Value} {loose : List Str}
  {dp un : Nat} {gd : Option (List Code)} {cn : Str} {cs : Scope} {ccd : Value} {cl : List (Str × Addr)} {outer : List Env} {E : Value → Shared → Prop}
local macro_rules | `(tactic| wtm_at "UnrEnd") => `(tactic| (refine UnrEnd.intro (by k_asm) (by k_asm) _ (fun p hp => hp) (by k_all) ?_))
local macro_rules | `(tactic| size_fits) => `(tactic| ((simp only [List.size_toArray, Array.size_push]); (rw [PySem.sizeLine_eq]); omega))
local macro_rules | `(tactic| wtm_at "exec For") => `(tactic| (k_here; (with_reducible show wpAny _ _ (exec (Stmt.For (Expr.Name (PySem.Str.ofString "number") _) _ _ [] _) _) _ _ _); with_unfolding_all ((rename Fr _ _ _ _ => F'); (refine For_S F' (by rfl) (by rfl) ?_))))
set_option maxHeartbeats 4000000 in
theorem digits_spec {Q : Value → Shared → Prop} {l : Addr} {us : List Value} {ns : List Int}
  (B : Below A₀ base outer h₀) (F : Fr h₀ L s.heap m) (X : (Mine.hd.heap_39 w.params).In h₀) (T : Top Mine.hd.view_39 loose mean mg mb h₀) (hk : cs.kind = .function)
  (hl : h₀.IsList l us.toArray) (hi : IntsAre us ns) (hlen : us.length ≤ 100)
  (hdp : dp + 40 < recursionLimit) (hun : un + 400 < cLine)
  (ret : ∀ D vs n' h' tk', Digs vs → s.heap.get? D = none → Ext [] s.heap h' → h'.get? D = some (listOf vs.toArray n') → Q (.ref D) {s with heap := h', toks := tk'})
  : wpAny (model pw w) (ktrTop dp un gd cn cs L a ccd cl outer) (call (.ref 336) [.ref l]) Q E s := by
  refine wpAny_call ?_
  have N : News h₀ L s.heap [] := News.nil
  k_dflt wtm_at "mine enter"
  intro g L' h' F' N' B' X' T' l1 HG hL'
  have hlg : g.IsList l us.toArray := by
    obtain ⟨o, ho, r⟩ := hl
    exact ⟨o, HG _ _ (F.keep _ _ ho) (fun h => nomatch h), r⟩
  clear F X T B N l1
  (try dsimp only)
  (try k_fold)
  k_steps
  rename_i Dd _ _ _ Ds ws h1 F1 N1 hI hC hlw lD
  refine iter_listM2 (z := "_") (by decide) (fun i _ news => ∃ vs nv, (Dd, listOf vs.toArray nv) ∈ news ∧ (∃ ns, IntsAre vs ns ∧ ∀ x ∈ ns, 0 ≤ x ∧ x < 8) ∧ vs.length ≤ 4 * i) rfl F1 N1 (N1 _ (.head _)).1 (N1 _ (.head _)).2.1 ?_ ?_ ?_
  · exact ⟨[], 0, .tail _ (.head _), ⟨[], .nil, fun _ h => nomatch h⟩, Nat.zero_le _⟩
  · intro i v b news₁ h tk I ob hv hJ F N hI2 hIs hI0 hIL hDs hoff
    obtain ⟨vs, nv, mD, hvs, hlv⟩ := hJ
    have hlt : i < ws.length := by
      rcases Nat.lt_or_ge i ws.length with q | q
      · exact q
      · rw [List.getElem?_eq_none q] at hv; cases hv
    obtain ⟨num, tn, rfl⟩ : ∃ k t, v = .int k t := by
      obtain ⟨t, hx⟩ := hI.get i ((ns.take 12)[i]'(by rw [← hI.length]; exact hlt)) (by rw [List.getElem?_eq_getElem])
      rw [hx] at hv
      exact ⟨_, _, (Option.some.inj hv).symm⟩
    have lws : ws.length ≤ 12 := by rw [hI.length, List.length_take]; exact Nat.min_le_left _ _
    have lvs : vs.length ≤ 48 := by omega
    have oDL := (N1 (Ds, _) (.head _)).2.1
    have oD0 := (N1 (Ds, _) (.head _)).2.2
    clear F1 N1
    have lDd : @LT.lt Nat _ Dd Ds := lD
    have oDs : @Ne Nat Ds Dd := fun e => by omega
    have oI : @Ne Nat I Dd := fun e => hoff _ mD e.symm
    have N9 : News g L' h ((Dd, listOf vs.toArray nv) :: Off [Dd] ((Ds, listOf ws.toArray 0) :: (I, ob) :: news₁)) := fun p hp => by
      rcases List.mem_cons.mp hp with rfl | hp
      · exact N _ mD
      · have hp := (mem_off.mp hp).1
        rcases List.mem_cons.mp hp with rfl | hp
        · exact ⟨hDs, oDL, oD0⟩
        rcases List.mem_cons.mp hp with rfl | hp
        · exact ⟨hI2, hIL, hI0⟩
        · exact N _ hp
    clear N
    k_steps
    rename_i h9 _ F9 N9
    simp only [List.push_toArray] at N9
    obtain ⟨ns0, hi0, hb0⟩ := hvs
    obtain ⟨vs9, n9, N9, hvs9, lvs9⟩ : ∃ (vs' : List Value) (n' : Nat), News g L' h9 ((Dd, listOf vs'.toArray n') :: Off [Dd] ((Ds, listOf ws.toArray 0) :: (I, ob) :: news₁)) ∧ (∃ ns', IntsAre vs' ns' ∧ ∀ x ∈ ns', 0 ≤ x ∧ x < 8) ∧ vs'.length = vs.length + 4 :=
      ⟨_, _, N9, ⟨_, (((hi0.append (.cons _ _ .nil)).append (.cons _ _ .nil)).append (.cons _ _ .nil)).append (.cons _ _ .nil), fun x hx => by
        simp only [List.mem_append, List.mem_singleton] at hx
        rcases hx with (((hx | rfl) | rfl) | rfl) | rfl
        · exact hb0 x hx
        all_goals exact ⟨Int.fmod_nonneg_of_pos _ (by decide), Int.fmod_lt_of_pos _ (by decide)⟩⟩, by simp only [List.length_append, List.length_cons, List.length_nil]⟩
    refine MEnd2.go (news' := (Dd, listOf vs9.toArray n9) :: Off [Dd] news₁) F9 (fun y h1 h2 => by simp only [h1, h2, if_false]) (fun p hp => N9 p ?_) (N9 (I, ob) ?_).1 (N9 (Ds, _) ?_).1 (fun p hp => ?_) ⟨vs9, n9, .head _, hvs9, by omega⟩ rfl
    · rcases List.mem_cons.mp hp with rfl | hp
      · exact .head _
      · have hp := mem_off.mp hp
        exact .tail _ (mem_off.mpr ⟨.tail _ (.tail _ hp.1), hp.2⟩)
    · exact .tail _ (mem_off.mpr ⟨.tail _ (.head _), by simpa using oI⟩)
    · exact .tail _ (mem_off.mpr ⟨.head _, by simpa using oDs⟩)
    · rcases List.mem_cons.mp hp with rfl | hp
      · exact fun e => oI e.symm
      · exact hoff _ (mem_off.mp hp).1
  · intro a b news₁ h tk hJ F N
    obtain ⟨vs, nv, mD, ⟨ns', hi', hb'⟩, hlv⟩ := hJ
    have lws : ws.length ≤ 12 := by rw [hI.length, List.length_take]; exact Nat.min_le_left _ _
    have hdd := (N1 (Dd, _) (by k_mem)).2.2
    clear F1 N1
    k_steps
    refine ret Dd vs nv h _ ⟨ns', hi', hb', by omega⟩ ?_ (ext_of HG F) (N _ mD).1
    cases q : s.heap.get? Dd with
    | none => rfl
    | some o => have := HG Dd o q (fun h => nomatch h); rw [hdd] at this; cases this
end
end TX_Digits
-- Ins
section TX_Ins
/-- what an insertion touches and reads -/
structure InsCx (h : Heap) (x C d t Ct td am dm lm at_ dt : Addr) (es tes mes pes : List DictEntry) (cs : List Addr) : Prop where
  io : ∃ n, IsObj h x C d es n
  hC : C = 247 ∨ C = 327
  len : es.length ≤ 40
  it : ∃ n, IsObj h t Ct td tes n
  hCt : Ct = 247 ∨ Ct = 327
  im : ∃ n, IsObj h am 247 dm mes n
  ml : mes.length ≤ 40
  mch : getL "children" mes = some (some (.ref lm))
  mic : getL "insert_child" mes = some none
  mcg : getL "changed" mes = some none
  pcg : getL "changed" pes = some none
  mwc : ∃ o, getL "was_changed" mes = some o
  pwc : ∃ o, getL "was_changed" pes = some o
  il : ∃ n, h.get? lm = some (listOf (cs.map Value.ref).toArray n)
  ip : ∃ n, IsObj h at_ 247 dt pes n
  kids : ∀ c ∈ cs, ∃ C' d', h.get? c = some (instObj C' d')
  cl : cs.length ≤ 100
  pl : pes.length ≤ 40
  ne : d ≠ td ∧ d ≠ dm ∧ d ≠ dt ∧ dm ≠ td ∧ dt ≠ td ∧ dm ≠ dt
section
variable {w : World} {A : Around} {s : Shared} {L x C d : Addr} {h₀ : Heap} {m : Str → Option Value} {es : List DictEntry} {n : Nat} {ox : Obj} {E : Value → Shared → Prop}
theorem get_par_none {expr : Bool} {Q : Value → Shared → Prop} (F : Fr h₀ L s.heap m) (X : (Mine.hd.heap_39 w.params).In h₀) (I : InstAt s.heap x ox C (some (dictOf es n))) (hC : C = 247 ∨ C = 327) (hl : getL "parent" es = some none) (h : Q .none { s with toks := s.toks + 1 }) :
    wpAny (model pw w) A (getAttr (.ref x) "parent" expr) Q E s := by
  rcases hC with rfl | rfl
  · k_dflt (refine' get_cls F X I ?k4 ?k5 ?k6 ?k7 ?k8 ?k9 hl h; (case k4 => k_is); (case k5 => k_is); (case k6 => k_is); (case k7 => k_is); (case k8 => k_handed); (case k9 => decide +kernel))
  · k_dflt (refine' get_cls F X I ?k4 ?k5 ?k6 ?k7 ?k8 ?k9 hl h; (case k4 => k_is); (case k5 => k_is); (case k6 => k_is); (case k7 => k_is); (case k8 => k_handed); (case k9 => decide +kernel))
theorem get_par_ref {expr : Bool} {P : Addr} {Q : Value → Shared → Prop} (F : Fr h₀ L s.heap m) (X : (Mine.hd.heap_39 w.params).In h₀) (I : InstAt s.heap x ox C (some (dictOf es n))) (hC : C = 247 ∨ C = 327) (hl : getL "parent" es = some (some (.ref P))) (h : Q (.ref P) { s with toks := s.toks + 1 }) :
    wpAny (model pw w) A (getAttr (.ref x) "parent" expr) Q E s := by
  rcases hC with rfl | rfl
  · k_dflt (refine' get_own F X I ?k4 ?k5 ?k6 ?k7 hl rfl h; (case k4 => k_is); (case k5 => k_is); (case k6 => k_is); (case k7 => k_is))
  · k_dflt (refine' get_own F X I ?k4 ?k5 ?k6 ?k7 hl rfl h; (case k4 => k_is); (case k5 => k_is); (case k6 => k_is); (case k7 => k_is))
theorem set_par {v : Value} {Q : Unit → Shared → Prop} {news news' : List (Addr × Obj)} (F : Fr h₀ L s.heap m) (X : (Mine.hd.heap_39 w.params).In h₀) (N : News h₀ L s.heap news) (I : InstAt s.heap x ox C (some (dictOf es n))) (hd : ox.dict = some d) (hC : C = 247 ∨ C = 327) (hl : (getL "parent" es).isSome = true)
    (hz : es.length ≤ 60) (U : Upd d (dictOf es n) (dictOf (putL "parent" (PyData.keyHash w.params "parent") (.str "parent" (s.toks + 1)) v es) (putN "parent" es n)) news news')
    (h : ∀ h', Fr h₀ L h' m → News h₀ L h' news' → Q () { s with heap := h', toks := s.toks + 2 }) :
    wpAny (model pw w) A (setAttr (.ref x) "parent" v) Q E s := by
  rcases hC with rfl | rfl
  · k_dflt (refine' set_dict F X N I hd ?k6 ?k7 ?k8 ?k9 hl rfl U (putL_le hz) h; (case k6 => k_is); (case k7 => k_is); (case k8 => k_is); (case k9 => k_is))
  · k_dflt (refine' set_dict F X N I hd ?k6 ?k7 ?k8 ?k9 hl rfl U (putL_le hz) h; (case k6 => k_is); (case k7 => k_is); (case k8 => k_is); (case k9 => k_is))
end
theorem fitsIdx {x : Int} (h0 : 0 ≤ x) (h1 : x ≤ 1000) : Builtin.List.listFitsIndex x = true := by
  unfold Builtin.List.listFitsIndex
  simp only [Bool.and_eq_true, decide_eq_true_eq]
  omega
theorem insList {b : Bool} {cs : List Addr} {x lm : Addr} {i j n : Nat} {h : Heap} {k : Int} {b₀ : Bool} (hb : b = b₀) (hij : j = i) (e : h.get? lm = some (listOf (kl_ins (cs.map Value.ref).toArray.toList k (Value.ref x)).toArray n)) (hk : k = if b₀ = true then (j : Int) + 1 else (j : Int) := by first | rfl | (simp)) :
    h.get? lm = some (listOf ((cs.take (if b = true then i + 1 else i) ++ x :: cs.drop (if b = true then i + 1 else i)).map Value.ref).toArray n) := by
  subst hb hij
  rw [e]
  have hk' : k = (((if b = true then j + 1 else j : Nat)) : Int) := by rw [hk]; split <;> simp
  have : kl_ins (cs.map Value.ref).toArray.toList k (Value.ref x) = (cs.take (if b = true then j + 1 else j) ++ x :: cs.drop (if b = true then j + 1 else j)).map Value.ref := by
    unfold kl_ins
    rw [hk']
    generalize (if b = true then j + 1 else j) = kk
    have h0 : ¬ ((kk : Int) < 0) := by omega
    simp only [if_neg h0, List.length_map, Int.toNat_natCast, List.map_append, List.map_cons, List.map_take, List.map_drop]
    rcases Nat.le_total kk cs.length with q | q
    · rw [Nat.min_eq_left q]
    · rw [Nat.min_eq_right q, List.take_of_length_le (by simp), List.drop_of_length_le (by simp), List.take_of_length_le (by simpa using q), List.drop_of_length_le (by simpa using q)]
  rw [this]
theorem insFacts {h₀ g h : Heap} {L : Addr} {m : Str → Option Value} {x d t td am dm lm at_ dt : Addr} {o1 o2 o3 o4 o5 o6 o7 o8 o9 q2 q6 q7 q9 : Obj}
    (N : News g L h [(x, o1), (d, o2), (t, o3), (td, o4), (am, o5), (dm, o6), (lm, o7), (at_, o8), (dt, o9)]) (F : Fr g L h m)
    (Ns : ∀ p ∈ [(x, o1), (d, q2), (t, o3), (td, o4), (am, o5), (dm, q6), (lm, q7), (at_, o8), (dt, q9)], h₀.get? p.1 = some p.2)
    (HG : ∀ b o, h₀.get? b = some o → b ∉ [(x, o1), (d, q2), (t, o3), (td, o4), (am, o5), (dm, q6), (lm, q7), (at_, o8), (dt, q9)].map (·.1) → g.get? b = some o) :
    h.get? d = some o2 ∧ h.get? dm = some o6 ∧ h.get? dt = some o9 ∧ h.get? lm = some o7 ∧ Ext [d, dm, lm, dt] h₀ h := by
  refine ⟨(N (d, o2) (by simp)).1, (N (dm, o6) (by simp)).1, (N (dt, o9) (by simp)).1, (N (lm, o7) (by simp)).1, fun b o hn e => ?_⟩
  by_cases hb : b ∈ [(x, o1), (d, q2), (t, o3), (td, o4), (am, o5), (dm, q6), (lm, q7), (at_, o8), (dt, q9)].map (·.1)
  · obtain ⟨p, hp, rfl⟩ := List.mem_map.mp hb
    rw [Ns p hp] at e; cases e
    simp only [List.mem_cons, List.not_mem_nil, or_false] at hp hn
    rcases hp with rfl | rfl | rfl | rfl | rfl | rfl | rfl | rfl | rfl
    · exact (N (_, o1) (by simp)).1
    · exact absurd (.inl rfl) hn
    · exact (N (_, o3) (by simp)).1
    · exact (N (_, o4) (by simp)).1
    · exact (N (_, o5) (by simp)).1
    · exact absurd (.inr (.inl rfl)) hn
    · exact absurd (.inr (.inr (.inl rfl))) hn
    · exact (N (_, o8) (by simp)).1
    · exact absurd (.inr (.inr (.inr rfl))) hn
  · exact F.keep b o (HG b o e hb)
section
variable {w : World} {A₀ : Around} {s : Shared} {L a : Addr} {h₀ base : Heap} {m mg mb : Str → Option Value} {mean : ExcName → Option Value} {loose : List Str}
  {dp un : Nat} {gd : Option (List Code)} {cn : Str} {cs_ : Scope} {ccd : Value} {cl : List (Str × Addr)} {outer : List Env} {E : Value → Shared → Prop}
local macro_rules | `(tactic| wtm_at "call builtin:list.insert") => `(tactic| (k_here; k_dflt (refine' kl_insert ?F ?N ?f rfl ?U ?z ?_; (case F => k_asm); (case N => k_asm); (case f => with_reducible assumption); (case U => k_upd); (case z => with_reducible assumption); k_whole); intro h' F' N'; (try k_sweep)))
local macro_rules | `(tactic| wtm_at "getAttr ref") => `(tactic| (k_here; (with_reducible show wpAny _ _ (getAttr (Value.ref _) (PySem.Str.ofString "parent") _) _ _ _); k_dflt (first
  | (refine' get_par_none ?k1 ?k2 ?k3 ?k4 ?k5 ?_; (case k1 => k_asm); (case k2 => k_asm); (case k3 => k_inst); (case k4 => first | assumption | exact .inl rfl); (case k5 => with_reducible assumption); k_whole)
  | (refine' get_par_ref ?k1 ?k2 ?k3 ?k4 ?k5 ?_; (case k1 => k_asm); (case k2 => k_asm); (case k3 => k_inst); (case k4 => first | assumption | exact .inl rfl); (case k5 => with_reducible assumption); k_whole))))
local macro_rules | `(tactic| wtm_at "setAttr ref") => `(tactic| (k_here; (with_reducible show wpAny _ _ (setAttr (Value.ref _) (PySem.Str.ofString "parent") _) _ _ _); k_dflt (refine' set_par ?k1 ?k2 ?k3 ?k4 ?kd ?k5 ?k6 ?k7 ?k8 ?_; (case k1 => k_asm); (case k2 => k_asm); (case k3 => k_asm); (case k4 => k_inst); (case kd => exact rfl); (case k5 => first | assumption | exact .inl rfl); (case k6 => exact getL_some (by with_reducible assumption)); (case k7 => with_reducible assumption); (case k8 => k_upd); k_whole; intro h' F' N'; (try k_sweep))))
local macro_rules | `(tactic| k_ne) => `(tactic| (refine neN ?_; (try dsimp only); first | with_reducible assumption | exact Ne.symm (by with_reducible assumption)))
local macro_rules | `(tactic| wtm_at "exec For Tuple Call cons nil") => `(tactic| (k_here; with_unfolding_all ((rename Fr _ _ _ _ => F'); (refine For_enumR F' (by rfl) (by rfl) (by rfl) (by rfl) ?_))))
set_option maxHeartbeats 4000000 in
theorem insertAt_ok {Q : Value → Shared → Prop} {x C d t Ct td am dm lm at_ dt : Addr} {es tes mes pes : List DictEntry} {cs : List Addr} {i : Nat} {b : Bool}
  (B : Below A₀ base outer h₀) (F : Fr h₀ L s.heap m) (X : (Mine.hd.heap_39 w.params).In h₀) (T : Top Mine.hd.view_39 loose mean mg mb h₀) (hk : cs_.kind = .function)
  (cx : InsCx s.heap x C d t Ct td am dm lm at_ dt es tes mes pes cs)
  (hfr : ∀ a ∈ [x, d, t, td, am, dm, lm, at_, dt], h₀.get? a = none ∧ a ≠ L)
  (hp : getL "parent" es = some none) (htp : getL "parent" tes = some (some (.ref am))) (hmp : getL "parent" mes = some (some (.ref at_))) (hpp : getL "parent" pes = some none)
  (hi : cs[i]? = some t) (hfirst : ∀ j, j < i → cs[j]? ≠ some t)
  (hdp : dp + 40 < recursionLimit) (hun : un + 400 < cLine)
  (ret : ∀ es' n' mes' mn' pes' pn' ln' h' tk', Put "parent" (.ref am) es es' → h'.get? d = some (dictOf es' n') → Put "was_changed" (.bool true) mes mes' → h'.get? dm = some (dictOf mes' mn') → Put "was_changed" (.bool true) pes pes' → h'.get? dt = some (dictOf pes' pn') →
    h'.get? lm = some (listOf ((cs.take (if b = true then i + 1 else i) ++ x :: cs.drop (if b = true then i + 1 else i)).map Value.ref).toArray ln') → Ext [d, dm, lm, dt] s.heap h' → Q .none {s with heap := h', toks := tk'})
  : wpAny (model pw w) (ktrTop dp un gd cn cs_ L a ccd cl outer) (call (.ref 43) [.ref x, .ref t] [("after", .bool b)]) Q E s := by
  refine wpAny_call ?_
  obtain ⟨⟨n1, io⟩, hC, len, ⟨n2, it⟩, hCt, ⟨n3, im⟩, ml, mch, mic, mcg, pcg, ⟨omw, mwc⟩, ⟨opw, pwc⟩, ⟨n4, il⟩, ⟨n5, ip⟩, kids, cl_, pl, q1, q2, q3, q4, q5, q6⟩ := cx
  have N : News h₀ L s.heap [(x, instObj C d), (d, dictOf es n1), (t, instObj Ct td), (td, dictOf tes n2), (am, instObj 247 dm), (dm, dictOf mes n3), (lm, listOf (cs.map Value.ref).toArray n4), (at_, instObj 247 dt), (dt, dictOf pes n5)] := fun p hp => by
    simp only [List.mem_cons, List.not_mem_nil, or_false] at hp
    rcases hp with rfl | rfl | rfl | rfl | rfl | rfl | rfl | rfl | rfl
    · exact ⟨io.obj, (hfr x (by simp)).2, (hfr x (by simp)).1⟩
    · exact ⟨io.dct, (hfr d (by simp)).2, (hfr d (by simp)).1⟩
    · exact ⟨it.obj, (hfr t (by simp)).2, (hfr t (by simp)).1⟩
    · exact ⟨it.dct, (hfr td (by simp)).2, (hfr td (by simp)).1⟩
    · exact ⟨im.obj, (hfr am (by simp)).2, (hfr am (by simp)).1⟩
    · exact ⟨im.dct, (hfr dm (by simp)).2, (hfr dm (by simp)).1⟩
    · exact ⟨il, (hfr lm (by simp)).2, (hfr lm (by simp)).1⟩
    · exact ⟨ip.obj, (hfr at_ (by simp)).2, (hfr at_ (by simp)).1⟩
    · exact ⟨ip.dct, (hfr dt (by simp)).2, (hfr dt (by simp)).1⟩
  have z1 : @Ne Nat x d := ne_cls io.obj io.dct (fun e => nomatch e)
  have z2 : @Ne Nat x dm := ne_cls io.obj im.dct (fun e => nomatch e)
  have z3 : @Ne Nat x dt := ne_cls io.obj ip.dct (fun e => nomatch e)
  have z4 : @Ne Nat x lm := ne_cls io.obj il (fun e => nomatch e)
  have z5 : @Ne Nat t d := ne_cls it.obj io.dct (fun e => nomatch e)
  have z6 : @Ne Nat t dm := ne_cls it.obj im.dct (fun e => nomatch e)
  have z7 : @Ne Nat t dt := ne_cls it.obj ip.dct (fun e => nomatch e)
  have z8 : @Ne Nat t lm := ne_cls it.obj il (fun e => nomatch e)
  have z9 : @Ne Nat am d := ne_cls im.obj io.dct (fun e => nomatch e)
  have z10 : @Ne Nat am dm := ne_cls im.obj im.dct (fun e => nomatch e)
  have z11 : @Ne Nat am dt := ne_cls im.obj ip.dct (fun e => nomatch e)
  have z12 : @Ne Nat am lm := ne_cls im.obj il (fun e => nomatch e)
  have z13 : @Ne Nat at_ d := ne_cls ip.obj io.dct (fun e => nomatch e)
  have z14 : @Ne Nat at_ dm := ne_cls ip.obj im.dct (fun e => nomatch e)
  have z15 : @Ne Nat at_ dt := ne_cls ip.obj ip.dct (fun e => nomatch e)
  have z16 : @Ne Nat at_ lm := ne_cls ip.obj il (fun e => nomatch e)
  have z17 : @Ne Nat lm d := ne_cls il io.dct (fun e => by injection e with e; revert e; decide)
  have z18 : @Ne Nat lm td := ne_cls il it.dct (fun e => by injection e with e; revert e; decide)
  have z19 : @Ne Nat lm dm := ne_cls il im.dct (fun e => by injection e with e; revert e; decide)
  have z20 : @Ne Nat lm dt := ne_cls il ip.dct (fun e => by injection e with e; revert e; decide)
  have w1 : @Ne Nat d td := q1
  have w2 : @Ne Nat d dm := q2
  have w3 : @Ne Nat d dt := q3
  have w4 : @Ne Nat dm td := q4
  have w5 : @Ne Nat dt td := q5
  have w6 : @Ne Nat dm dt := q6
  have Ns : ∀ p ∈ ([(x, instObj C d), (d, dictOf es n1), (t, instObj Ct td), (td, dictOf tes n2), (am, instObj 247 dm), (dm, dictOf mes n3), (lm, listOf (cs.map Value.ref).toArray n4), (at_, instObj 247 dt), (dt, dictOf pes n5)] : List (Addr × Obj)), s.heap.get? p.1 = some p.2 := fun p hp => (N p hp).1
  k_dflt wtm_at "mine enter"
  intro g L' h' F' N' B' X' T' l1 HG hL'
  clear F X T B N l1
  have len60 : es.length ≤ 60 := Nat.le_trans len (by decide)
  have ml60 : mes.length ≤ 60 := Nat.le_trans ml (by decide)
  have pl60 : pes.length ≤ 60 := Nat.le_trans pl (by decide)
  (try dsimp only)
  (try k_fold)
  k_steps
  rename_i h2 F2 N2
  refine call_enumerate_1 (N2 (lm, _) (by k_mem)).1 fun h3 he hit hz3 hk3 => ?_
  have sz2 : ∀ p ∈ ([(x, instObj C d), (d, dictOf es n1), (t, instObj Ct td), (td, dictOf tes n2), (am, instObj 247 dm), (dm, dictOf mes n3), (lm, listOf (cs.map Value.ref).toArray n4), (at_, instObj 247 dt), (dt, dictOf pes n5)] : List (Addr × Obj)), @LT.lt Nat _ p.1 h2.objs.size := fun p hp => Heap.lt_size (N2 p hp).1
  have hL2 : @LT.lt Nat _ L' h2.objs.size := F2.ns.lt
  have hlm := sz2 (lm, _) (by k_mem)
  have hlmL := (N2 (lm, _) (by k_mem)).2.1
  have n0 : ∀ b, @LE.le Nat _ h2.objs.size b → g.get? b = none := fun b hb => by
    cases q : g.get? b with
    | none => rfl
    | some o => exact absurd (Nat.lt_of_lt_of_le (Heap.lt_size (F2.keep b o q)) hb) (Nat.lt_irrefl _)
  have hic : i < cs.length := by
    rcases Nat.lt_or_ge i cs.length with q | q
    · exact q
    · rw [List.getElem?_eq_none q] at hi; cases hi
  refine ⟨h2.objs.size + 1, h2.objs.size, lm, _, _, (fun j => j ≤ i), rfl, Nat.succ_ne_self _, Nat.ne_of_gt (Nat.lt_succ_of_lt hL2), Nat.ne_of_gt hL2, hlmL, Nat.ne_of_lt (Nat.lt_succ_of_lt hlm), Nat.ne_of_lt hlm, he, hit, ⟨_, hk3 _ _ (N2 (lm, _) (by k_mem)).1, rfl, _, rfl⟩, F2.keeps hk3, n0 _ (Nat.le_succ _), n0 _ (Nat.le_refl _), Nat.zero_le _, ?_, ?_⟩
  · intro j v tk9 h tk8 hv hJ ex F3
    have N3 := (N2.grown hk3 : News g L' h3 _)
    replace N3 : News g L' h _ := ex.news N3 (fun p hp hm => by
      have hp2 := sz2 p hp
      simp only [List.mem_cons, List.not_mem_nil, or_false] at hm
      rcases hm with hm | hm | hm
      · exact (N2 p hp).2.1 hm
      · rw [hm] at hp2; exact absurd hp2 (by omega)
      · rw [hm] at hp2; exact absurd hp2 (by omega))
    have exh : ∀ b o, s.heap.get? b = some o → h.get? b = some o := fun b o e => by
      by_cases hb : b ∈ ([(x, instObj C d), (d, dictOf es n1), (t, instObj Ct td), (td, dictOf tes n2), (am, instObj 247 dm), (dm, dictOf mes n3), (lm, listOf (cs.map Value.ref).toArray n4), (at_, instObj 247 dt), (dt, dictOf pes n5)] : List (Addr × Obj)).map (·.1)
      · obtain ⟨p, hp, rfl⟩ := List.mem_map.mp hb
        rw [Ns p hp] at e; cases e
        exact (N3 p hp).1
      · exact F3.keep b o (HG b o e hb)
    obtain ⟨c, hc, rfl⟩ : ∃ c, cs[j]? = some c ∧ v = .ref c := by
      simp only [List.getElem?_toArray, List.getElem?_map] at hv
      obtain ⟨c, hc, e⟩ := Option.map_eq_some_iff.mp hv
      exact ⟨c, hc, e.symm⟩
    have hjc : j < cs.length := by
      rcases Nat.lt_or_ge j cs.length with q | q
      · exact q
      · rw [List.getElem?_eq_none q] at hc; cases hc
    have hfit0 : Builtin.List.listFitsIndex (j : Int) = true := fitsIdx (by omega) (by omega)
    have hfit1 : Builtin.List.listFitsIndex ((j : Int) + 1) = true := fitsIdx (by omega) (by omega)
    have hlen9 : ((cs.map Value.ref).toArray.toList).length ≤ sizeLine := by
      rw [PySem.sizeLine_eq]; simp only [List.length_map]; omega
    have hcls := kids c (List.mem_of_getElem? hc)
    clear F2 N2 hk3 ex hv
    by_cases hct : c = t
    · subst hct
      have hij : j = i := by
        rcases Nat.lt_or_ge j i with q | q
        · exact absurd hc (hfirst j q)
        · omega
      k_steps
      all_goals (
        rename b = _ => hb
        rename Fr _ _ _ _ => F9
        rename News _ _ _ _ => N9
        obtain ⟨e1, e2, e3, e4, e5⟩ := insFacts N9 F9 Ns HG
        exact ret _ _ _ _ _ _ _ _ _ ⟨_, _, rfl⟩ e1 ⟨_, _, rfl⟩ e2 ⟨_, _, rfl⟩ e3 (insList hb hij e4) e5)
    · obtain ⟨C', d', hcls⟩ := hcls
      have hc3 := exh _ _ hcls
      have ht3 := (N3 (t, _) (by k_mem)).1
      k_steps
      refine wpAny_is_ref_other hct hc3 ht3 (fun e => nomatch e) ?_
      k_steps
      have hji : j ≠ i := fun e => by rw [e, hi] at hc; exact hct (Option.some.inj hc).symm
      exact ⟨by omega, tk8, rfl⟩
  · intro h tk9 a9 b9 hJ _ _
    simp only [List.size_toArray, List.length_map] at hJ
    omega
end
end TX_Ins
-- Raise
section TX_Raise
section
variable {w : World} {A₀ : Around} {s : Shared} {L a : Addr} {h₀ base : Heap} {m mg mb : Str → Option Value} {mean : ExcName → Option Value} {loose : List Str}
  {dp un : Nat} {gd : Option (List Code)} {cn : Str} {cs : Scope} {ccd : Value} {cl : List (Str × Addr)} {outer : List Env} {E : Value → Shared → Prop}
local macro_rules | `(tactic| k_ne) => `(tactic| (refine neN ?_; (try dsimp only); first | with_reducible assumption | exact Ne.symm (by with_reducible assumption)))
local macro_rules | `(tactic| wtm_at "exec For Tuple Call cons nil") => `(tactic| (k_here; with_unfolding_all ((rename Fr _ _ _ _ => F'); (refine For_enumR F' (by rfl) (by rfl) (by rfl) (by rfl) ?_))))
local macro_rules | `(tactic| wtm_at "getAttr ref") => `(tactic| (k_here; (with_reducible show wpAny _ _ (getAttr (Value.ref _) (PySem.Str.ofString "parent") _) _ _ _); k_dflt (first
  | (refine' get_par_none ?k1 ?k2 ?k3 ?k4 ?k5 ?_; (case k1 => k_asm); (case k2 => k_asm); (case k3 => k_inst); (case k4 => first | assumption | exact .inl rfl); (case k5 => with_reducible assumption); k_whole)
  | (refine' get_par_ref ?k1 ?k2 ?k3 ?k4 ?k5 ?_; (case k1 => k_asm); (case k2 => k_asm); (case k3 => k_inst); (case k4 => first | assumption | exact .inl rfl); (case k5 => with_reducible assumption); k_whole))))
local macro_rules | `(tactic| wtm_at "leaving ref") => `(tactic| (k_here; refine Stop.mk ?_))
set_option maxHeartbeats 4000000 in
/-- a new node that has a parent, or a place without one -/
theorem insertAt_raise {Q : Value → Shared → Prop} {x C d t Ct td : Addr} {es tes : List DictEntry} {n1 n2 : Nat} {b : Bool}
  (B : Below A₀ base outer h₀) (F : Fr h₀ L s.heap m) (X : (Mine.hd.heap_39 w.params).In h₀) (T : Top Mine.hd.view_39 loose mean mg mb h₀) (hk : cs.kind = .function)
  (io : IsObj s.heap x C d es n1) (hC : C = 247 ∨ C = 327) (it : IsObj s.heap t Ct td tes n2) (hCt : Ct = 247 ∨ Ct = 327)
  (hfr : ∀ a ∈ [x, d, t, td], h₀.get? a = none ∧ a ≠ L)
  (why : (∃ P, getL "parent" es = some (some (.ref P))) ∨ (getL "parent" es = some none ∧ getL "parent" tes = some none))
  (hdp : dp + 40 < recursionLimit) (hun : un + 400 < cLine)
  (exc : ∀ e h' tk', (∀ news, News h₀ L s.heap news → RaisedC base (envX cn cs L a ccd cl :: outer) e (.type "RuntimeError") news h') → (∃ g, Fr h₀ L g m ∧ g.UpToSlots h') → E (.ref e) {s with heap := h', toks := tk'})
  : wpAny (model pw w) (ktrTop dp un gd cn cs L a ccd cl outer) (call (.ref 43) [.ref x, .ref t] [("after", .bool b)]) Q E s := by
  refine wpAny_call ?_
  have N : News h₀ L s.heap [(x, instObj C d), (d, dictOf es n1), (t, instObj Ct td), (td, dictOf tes n2)] := fun p hp => by
    simp only [List.mem_cons, List.not_mem_nil, or_false] at hp
    rcases hp with rfl | rfl | rfl | rfl
    · exact ⟨io.obj, (hfr x (by simp)).2, (hfr x (by simp)).1⟩
    · exact ⟨io.dct, (hfr d (by simp)).2, (hfr d (by simp)).1⟩
    · exact ⟨it.obj, (hfr t (by simp)).2, (hfr t (by simp)).1⟩
    · exact ⟨it.dct, (hfr td (by simp)).2, (hfr td (by simp)).1⟩
  have Ns : ∀ p ∈ ([(x, instObj C d), (d, dictOf es n1), (t, instObj Ct td), (td, dictOf tes n2)] : List (Addr × Obj)), s.heap.get? p.1 = some p.2 := fun p hp => (N p hp).1
  k_dflt wtm_at "mine enterR"
  intro g L' h' F' N' B' X' T' l1 HG hL' FG
  clear X T N
  have B₀ := B
  have F₀ := F
  clear B F
  (try dsimp only)
  (try k_fold)
  rcases why with ⟨P, hp⟩ | ⟨hp, htp⟩
  all_goals k_steps
  all_goals (
    unfold Stop
    rename Heap.NewExc _ _ _ _ => hx
    rename Fr g L' _ _ => F9
    rename News g L' _ _ => N9
    refine leave_mine B₀ rfl B' hx F9 (fun h9 hR hU => exc _ h9 _ (fun news Nn => hR news fun p hp => ?_) ⟨g, FG, hU⟩)
    have Np := Nn p hp
    refine ⟨?_, Np.2.1, fun q => ?_, Np.2.2⟩
    · by_cases hb : p.1 ∈ ([(x, instObj C d), (d, dictOf es n1), (t, instObj Ct td), (td, dictOf tes n2)] : List (Addr × Obj)).map (·.1)
      · obtain ⟨q, hq, e⟩ := List.mem_map.mp hb
        have e1 := Ns q hq
        rw [e, Np.1] at e1
        have e2 := (N9 q (.tail _ hq)).1
        rw [e] at e2
        exact e2.trans e1.symm
      · exact F9.keep _ _ (HG _ _ Np.1 hb)
    · have := Heap.lt_size Np.1
      rw [q, hL'] at this
      exact Nat.lt_irrefl _ this)
set_option maxHeartbeats 4000000 in
/-- a place that its parent does not know -/
theorem insertAt_lost {Q : Value → Shared → Prop} {x C d t Ct td am dm lm : Addr} {es tes mes : List DictEntry} {n1 n2 n3 n4 : Nat} {cs' : List Addr} {b : Bool}
  (B : Below A₀ base outer h₀) (F : Fr h₀ L s.heap m) (X : (Mine.hd.heap_39 w.params).In h₀) (T : Top Mine.hd.view_39 loose mean mg mb h₀) (hk : cs.kind = .function)
  (io : IsObj s.heap x C d es n1) (hC : C = 247 ∨ C = 327) (it : IsObj s.heap t Ct td tes n2) (hCt : Ct = 247 ∨ Ct = 327) (im : IsObj s.heap am 247 dm mes n3) (il : s.heap.get? lm = some (listOf (cs'.map Value.ref).toArray n4))
  (hfr : ∀ a ∈ [x, d, t, td, am, dm, lm], h₀.get? a = none ∧ a ≠ L)
  (hp : getL "parent" es = some none) (htp : getL "parent" tes = some (some (.ref am))) (mch : getL "children" mes = some (some (.ref lm)))
  (kids : ∀ c ∈ cs', ∃ C' d', s.heap.get? c = some (instObj C' d')) (hno : t ∉ cs')
  (hdp : dp + 40 < recursionLimit) (hun : un + 400 < cLine)
  (exc : ∀ e h' tk', (∀ news, News h₀ L s.heap news → RaisedC base (envX cn cs L a ccd cl :: outer) e (.type "RuntimeError") news h') → (∃ g, Fr h₀ L g m ∧ g.UpToSlots h') → E (.ref e) {s with heap := h', toks := tk'})
  : wpAny (model pw w) (ktrTop dp un gd cn cs L a ccd cl outer) (call (.ref 43) [.ref x, .ref t] [("after", .bool b)]) Q E s := by
  refine wpAny_call ?_
  have N : News h₀ L s.heap [(x, instObj C d), (d, dictOf es n1), (t, instObj Ct td), (td, dictOf tes n2), (am, instObj 247 dm), (dm, dictOf mes n3), (lm, listOf (cs'.map Value.ref).toArray n4)] := fun p hp => by
    simp only [List.mem_cons, List.not_mem_nil, or_false] at hp
    rcases hp with rfl | rfl | rfl | rfl | rfl | rfl | rfl
    · exact ⟨io.obj, (hfr x (by simp)).2, (hfr x (by simp)).1⟩
    · exact ⟨io.dct, (hfr d (by simp)).2, (hfr d (by simp)).1⟩
    · exact ⟨it.obj, (hfr t (by simp)).2, (hfr t (by simp)).1⟩
    · exact ⟨it.dct, (hfr td (by simp)).2, (hfr td (by simp)).1⟩
    · exact ⟨im.obj, (hfr am (by simp)).2, (hfr am (by simp)).1⟩
    · exact ⟨im.dct, (hfr dm (by simp)).2, (hfr dm (by simp)).1⟩
    · exact ⟨il, (hfr lm (by simp)).2, (hfr lm (by simp)).1⟩
  have Ns : ∀ p ∈ ([(x, instObj C d), (d, dictOf es n1), (t, instObj Ct td), (td, dictOf tes n2), (am, instObj 247 dm), (dm, dictOf mes n3), (lm, listOf (cs'.map Value.ref).toArray n4)] : List (Addr × Obj)), s.heap.get? p.1 = some p.2 := fun p hp => (N p hp).1
  k_dflt wtm_at "mine enterR"
  intro g L' h' F' N' B' X' T' l1 HG hL' FG
  clear X T N
  have B₀ := B
  have F₀ := F
  clear B F
  (try dsimp only)
  (try k_fold)
  k_steps
  rename_i h2 F2 N2
  refine call_enumerate_1 (N2 (lm, _) (by k_mem)).1 fun h3 he hit hz3 hk3 => ?_
  have sz2 : ∀ p ∈ ([(x, instObj C d), (d, dictOf es n1), (t, instObj Ct td), (td, dictOf tes n2), (am, instObj 247 dm), (dm, dictOf mes n3), (lm, listOf (cs'.map Value.ref).toArray n4)] : List (Addr × Obj)), @LT.lt Nat _ p.1 h2.objs.size := fun p hp => Heap.lt_size (N2 p hp).1
  have hL2 : @LT.lt Nat _ L' h2.objs.size := F2.ns.lt
  have hlm := sz2 (lm, _) (by k_mem)
  have hlmL := (N2 (lm, _) (by k_mem)).2.1
  have n0 : ∀ b, @LE.le Nat _ h2.objs.size b → g.get? b = none := fun b hb => by
    cases q : g.get? b with
    | none => rfl
    | some o => exact absurd (Nat.lt_of_lt_of_le (Heap.lt_size (F2.keep b o q)) hb) (Nat.lt_irrefl _)
  have Nx : ∀ h, Ext [L', h2.objs.size + 1, h2.objs.size] h3 h → News g L' h [(x, instObj C d), (d, dictOf es n1), (t, instObj Ct td), (td, dictOf tes n2), (am, instObj 247 dm), (dm, dictOf mes n3), (lm, listOf (cs'.map Value.ref).toArray n4)] := fun h ex => by
    have N3 := (N2.grown hk3 : News g L' h3 _)
    exact ex.news N3 (fun p hp hm => by
      have hp2 := sz2 p hp
      simp only [List.mem_cons, List.not_mem_nil, or_false] at hm
      rcases hm with hm | hm | hm
      · exact (N2 p hp).2.1 hm
      · rw [hm] at hp2; exact absurd hp2 (by omega)
      · rw [hm] at hp2; exact absurd hp2 (by omega))
  refine ⟨h2.objs.size + 1, h2.objs.size, lm, _, _, (fun j => True), rfl, Nat.succ_ne_self _, Nat.ne_of_gt (Nat.lt_succ_of_lt hL2), Nat.ne_of_gt hL2, hlmL, Nat.ne_of_lt (Nat.lt_succ_of_lt hlm), Nat.ne_of_lt hlm, he, hit, ⟨_, hk3 _ _ (N2 (lm, _) (by k_mem)).1, rfl, _, rfl⟩, F2.keeps hk3, n0 _ (Nat.le_succ _), n0 _ (Nat.le_refl _), trivial, ?_, ?_⟩
  · intro j v tk9 h tk8 hv hJ ex F3
    have N3 := Nx h ex
    have exh : ∀ b o, s.heap.get? b = some o → h.get? b = some o := fun b o e => by
      by_cases hb : b ∈ ([(x, instObj C d), (d, dictOf es n1), (t, instObj Ct td), (td, dictOf tes n2), (am, instObj 247 dm), (dm, dictOf mes n3), (lm, listOf (cs'.map Value.ref).toArray n4)] : List (Addr × Obj)).map (·.1)
      · obtain ⟨p, hp, rfl⟩ := List.mem_map.mp hb
        rw [Ns p hp] at e; cases e
        exact (N3 p hp).1
      · exact F3.keep b o (HG b o e hb)
    obtain ⟨c, hc, rfl⟩ : ∃ c, cs'[j]? = some c ∧ v = .ref c := by
      simp only [List.getElem?_toArray, List.getElem?_map] at hv
      obtain ⟨c, hc, e⟩ := Option.map_eq_some_iff.mp hv
      exact ⟨c, hc, e.symm⟩
    have hct : c ≠ t := fun e => hno (e ▸ List.mem_of_getElem? hc)
    obtain ⟨C', d', hcls⟩ := kids c (List.mem_of_getElem? hc)
    clear F2 N2 Ns HG hk3 ex hv
    have hc3 := exh _ _ hcls
    have ht3 := (N3 (t, _) (by k_mem)).1
    k_steps
    refine wpAny_is_ref_other hct hc3 ht3 (fun e => nomatch e) ?_
    k_steps
    exact ⟨trivial, tk8, rfl⟩
  · intro h tk9 a9 b9 hJ ex F3
    have N3 := Nx h ex
    clear F2 N2 hk3
    k_steps
    unfold Stop
    rename Heap.NewExc _ _ _ _ => hx
    rename Fr g L' _ _ => F9
    rename News g L' _ _ => N9
    refine leave_mine B₀ rfl B' hx F9 (fun h9 hR hU => exc _ h9 _ (fun news Nn => hR news fun p hp => ?_) ⟨g, FG, hU⟩)
    have Np := Nn p hp
    refine ⟨?_, Np.2.1, fun q => ?_, Np.2.2⟩
    · by_cases hb : p.1 ∈ ([(x, instObj C d), (d, dictOf es n1), (t, instObj Ct td), (td, dictOf tes n2), (am, instObj 247 dm), (dm, dictOf mes n3), (lm, listOf (cs'.map Value.ref).toArray n4)] : List (Addr × Obj)).map (·.1)
      · obtain ⟨q, hq, e⟩ := List.mem_map.mp hb
        have e1 := Ns q hq
        rw [e, Np.1] at e1
        have e2 := (N9 q (.tail _ hq)).1
        rw [e] at e2
        exact e2.trans e1.symm
      · exact F9.keep _ _ (HG _ _ Np.1 hb)
    · have := Heap.lt_size Np.1
      rw [q, hL'] at this
      exact Nat.lt_irrefl _ this
end
end TX_Raise
-- Scene
section TX_Scene
def Keep (S : List Addr) (l l' : List (Addr × Obj)) : Prop := ∀ p ∈ l, p.1 ∉ S → p ∈ l'
theorem Keep.trans {S S' : List Addr} {l l' l'' : List (Addr × Obj)} (a : Keep S l l') (b : Keep S' l' l'') : Keep (S ++ S') l l'' := fun p hp h => b p (a p hp fun q => h (List.mem_append_left _ q)) fun q => h (List.mem_append_right _ q)
theorem Keep.mono {S S' : List Addr} {l l' : List (Addr × Obj)} (a : Keep S l l') (h : ∀ b ∈ S, b ∈ S') : Keep S' l l' := fun p hp q => a p hp fun z => q (h _ z)
/-- the heap, seen at the addresses of a ledger -/
def ledOf (as : List Addr) (h : Heap) : List (Addr × Obj) := as.filterMap fun a => (h.get? a).map fun o => (a, o)
theorem mem_ledOf {as : List Addr} {h : Heap} {a : Addr} {o : Obj} : (a, o) ∈ ledOf as h ↔ a ∈ as ∧ h.get? a = some o := by
  unfold ledOf
  rw [List.mem_filterMap]
  constructor
  · rintro ⟨b, hb, e⟩
    obtain ⟨o', ho, e⟩ := Option.map_eq_some_iff.mp e
    cases e
    exact ⟨hb, ho⟩
  · rintro ⟨ha, ho⟩
    exact ⟨a, ha, by rw [ho]; rfl⟩
/-- middle and top, their dicts and lists -/
structure Mid where
  am : Addr
  dm : Addr
  lm : Addr
  at_ : Addr
  dt : Addr
  lt : Addr
  rest : Addr
structure MidOk (G : Where) (t : Mid) (cs : List Addr) (wc : Option Value) (b : Nat) : Prop where
  ex : ∃ mes n pes n' nl nt, G t.am (instObj 247 t.dm) ∧ G t.dm (dictOf mes n) ∧ G t.lm (listOf (cs.map Value.ref).toArray nl) ∧ G t.at_ (instObj 247 t.dt) ∧ G t.dt (dictOf pes n') ∧ G t.lt (listOf [Value.ref t.rest, Value.ref t.am].toArray nt) ∧
    mes.length ≤ b ∧ pes.length ≤ b ∧ getL "children" mes = some (some (.ref t.lm)) ∧ getL "insert_child" mes = some none ∧ getL "changed" mes = some none ∧ getL "parent" mes = some (some (.ref t.at_)) ∧ getL "was_changed" mes = some wc ∧
    getL "children" pes = some (some (.ref t.lt)) ∧ getL "changed" pes = some none ∧ getL "parent" pes = some none ∧ getL "was_changed" pes = some wc
  ne : t.dm ≠ t.dt ∧ t.lm ≠ t.lt
def Out (sm : Sm) (a : Addr) : Prop := a < sm.lo ∨ sm.hi ≤ a
structure Apart (sm : Sm) (t : Mid) : Prop where
  dm : Out sm t.dm
  lm : Out sm t.lm
  dt : Out sm t.dt
def Disj (a b : Sm) : Prop := a.hi ≤ b.lo ∨ b.hi ≤ a.lo
theorem Out.ne {sm : Sm} {a b : Addr} (o : Out sm a) (h1 : sm.lo ≤ b) (h2 : b < sm.hi) : b ≠ a := fun e => by
  rcases o with q | q
  · exact absurd (Nat.lt_of_lt_of_le q h1) (e ▸ Nat.lt_irrefl _)
  · exact absurd (Nat.lt_of_lt_of_le h2 q) (e ▸ Nat.lt_irrefl _)
theorem Disj.ne {sm sm' : Sm} {a b : Addr} (o : Disj sm sm') (h1 : sm.lo ≤ a) (h2 : a < sm.hi) (h3 : sm'.lo ≤ b) (h4 : b < sm'.hi) : a ≠ b := fun e => by
  rcases o with q | q
  · exact absurd (Nat.lt_of_lt_of_le h2 (Nat.le_trans q h3)) (e ▸ Nat.lt_irrefl _)
  · exact absurd (Nat.lt_of_lt_of_le h4 (Nat.le_trans q h1)) (e ▸ Nat.lt_irrefl _)
theorem Disj.symm {a b : Sm} (h : Disj a b) : Disj b a := h.elim .inr .inl
/-- where the new things go -/
def csAt (b : Bool) (k : Nat) (cs ins : List Addr) : List Addr := if b = true then cs.take (k + 1) ++ ins.reverse ++ cs.drop (k + 1) else cs.take k ++ ins ++ cs.drop k
theorem csAt_nil (b : Bool) (k : Nat) (cs : List Addr) : csAt b k cs [] = cs := by
  unfold csAt; split <;> simp
/-- the place, in the list as it is -/
def plAt (b : Bool) (k : Nat) (ins : List Addr) : Nat := if b = true then k else k + ins.length
theorem csAt_next (b : Bool) (k : Nat) (cs ins : List Addr) (x : Addr) (hk : k < cs.length) :
    (csAt b k cs ins).take (if b = true then plAt b k ins + 1 else plAt b k ins) ++ x :: (csAt b k cs ins).drop (if b = true then plAt b k ins + 1 else plAt b k ins) = csAt b k cs (ins ++ [x]) := by
  unfold csAt plAt
  cases b with
  | true =>
    simp only [if_true, List.reverse_append, List.reverse_cons, List.reverse_nil, List.nil_append, List.singleton_append, List.append_assoc]
    have h1 : (cs.take (k + 1)).length = k + 1 := by rw [List.length_take]; omega
    rw [List.take_append_of_le_length (by omega), List.drop_append_of_le_length (by omega), List.take_of_length_le (by omega), List.drop_of_length_le (by omega)]
    simp
  | false =>
    simp only [Bool.false_eq_true, if_false, List.append_assoc]
    have h1 : (cs.take k).length = k := by rw [List.length_take]; omega
    have e : (cs.take k ++ (ins ++ cs.drop k)) = (cs.take k ++ ins) ++ cs.drop k := by rw [List.append_assoc]
    have h2 : (cs.take k ++ ins).length = k + ins.length := by rw [List.length_append, h1]
    rw [e, List.take_append_of_le_length (by omega), List.drop_append_of_le_length (by omega), List.take_of_length_le (by omega), List.drop_of_length_le (by omega)]
    simp
theorem csAt_at (b : Bool) (k : Nat) (cs ins : List Addr) (t : Addr) (hk : cs[k]? = some t) : (csAt b k cs ins)[plAt b k ins]? = some t := by
  have hlt : k < cs.length := by
    rcases Nat.lt_or_ge k cs.length with q | q
    · exact q
    · rw [List.getElem?_eq_none q] at hk; cases hk
  unfold csAt plAt
  cases b with
  | true =>
    simp only [if_true, List.append_assoc]
    rw [List.getElem?_append_left (by rw [List.length_take]; omega), List.getElem?_take_of_lt (by omega)]
    exact hk
  | false =>
    simp only [Bool.false_eq_true, if_false]
    have h2 : (cs.take k ++ ins).length = k + ins.length := by rw [List.length_append, List.length_take]; omega
    rw [List.getElem?_append_right (by omega), h2, Nat.sub_self, List.getElem?_drop]
    simpa using hk
theorem csAt_first (b : Bool) (k : Nat) (cs ins : List Addr) (t : Addr) (hk : cs[k]? = some t) (nd : cs.Nodup) (hin : ∀ x ∈ ins, x ∉ cs) : ∀ j, j < plAt b k ins → (csAt b k cs ins)[j]? ≠ some t := by
  have hlt : k < cs.length := by
    rcases Nat.lt_or_ge k cs.length with q | q
    · exact q
    · rw [List.getElem?_eq_none q] at hk; cases hk
  have first : ∀ j, j < k → cs[j]? ≠ some t := fun j hj e => by
    have := (List.getElem?_inj (by omega) nd).mp (e.trans hk.symm)
    omega
  have tin : t ∈ cs := List.mem_of_getElem? hk
  intro j hj
  unfold csAt
  unfold plAt at hj
  cases b with
  | true =>
    simp only [if_true] at hj ⊢
    rw [List.append_assoc, List.getElem?_append_left (by rw [List.length_take]; omega), List.getElem?_take_of_lt (by omega)]
    exact first j hj
  | false =>
    simp only [Bool.false_eq_true, if_false] at hj ⊢
    have h1 : (cs.take k).length = k := by rw [List.length_take]; omega
    rcases Nat.lt_or_ge j k with q | q
    · rw [List.append_assoc, List.getElem?_append_left (by omega), List.getElem?_take_of_lt q]
      exact first j q
    · rw [List.getElem?_append_left (by rw [List.length_append, h1]; omega), List.getElem?_append_right (by omega)]
      intro e
      exact hin t (List.mem_of_getElem? e) tin
theorem csAt_length (b : Bool) (k : Nat) (cs ins : List Addr) (hk : k < cs.length) : (csAt b k cs ins).length = cs.length + ins.length := by
  unfold csAt; split <;> simp <;> omega
theorem csAt_mem {b : Bool} {k : Nat} {cs ins : List Addr} {c : Addr} (h : c ∈ csAt b k cs ins) : c ∈ cs ∨ c ∈ ins := by
  unfold csAt at h
  split at h <;> simp only [List.mem_append, List.mem_reverse] at h <;> rcases h with (h | h) | h
  · exact .inl (List.mem_of_mem_take h)
  · exact .inr h
  · exact .inl (List.mem_of_mem_drop h)
  · exact .inl (List.mem_of_mem_take h)
  · exact .inr h
  · exact .inl (List.mem_of_mem_drop h)
section
variable {w : World} {A₀ : Around} {s : Shared} {L a : Addr} {h₀ base : Heap} {m mg mb : Str → Option Value} {mean : ExcName → Option Value} {loose : List Str}
  {dp un : Nat} {gd : Option (List Code)} {cn : Str} {cs : Scope} {ccd : Value} {cl : List (Str × Addr)} {outer : List Env} {E : Value → Shared → Prop}

end
end TX_Scene
-- Turn
section TX_Turn
/-- what stands before an insertion -/
structure Stage (t : Mid) (tgt : Sm) (k : Nat) (cs : List Addr) (goods : List Sm) (news : List (Addr × Obj)) : Prop where
  tok : SmOk (Gl news) tgt (some (.ref t.am))
  gok : ∀ sm ∈ goods, SmOk (Gl news) sm none
  disj : (goods ++ [tgt]).Pairwise Disj
  ap : ∀ sm ∈ goods ++ [tgt], Apart sm t
  idx : cs[k]? = some tgt.x
  nd : cs.Nodup
  nin : ∀ sm ∈ goods, sm.x ∉ cs
  kids : ∀ c ∈ cs, ∃ C d, (c, instObj C d) ∈ news
  cl : cs.length + goods.length ≤ 40
  gl : goods.length ≤ 10
  fn : ∀ a o o', (a, o) ∈ news → (a, o') ∈ news → o = o'
  mid : MidOk (Gl news) t cs none 20
/-- so far -/
structure Scene (b : Bool) (t : Mid) (k : Nat) (cs : List Addr) (goods : List Sm) (news news₁ : List (Addr × Obj)) (i : Nat) : Prop where
  ile : i ≤ goods.length
  keep : Keep ((goods.take i).map Sm.d ++ [t.dm, t.lm, t.dt]) news news₁
  mid : MidOk (Gl news₁) t (csAt b k cs ((goods.take i).map Sm.x)) (if i = 0 then none else some (.bool true)) (20 + i)
  done : ∀ sm ∈ goods.take i, SmOk (Gl news₁) sm (some (.ref t.am))
  adr : ∀ p ∈ news₁, p.1 ∈ news.map (·.1)
theorem take_next {goods : List Sm} {i : Nat} {sm : Sm} (h : goods[i]? = some sm) : goods.take (i + 1) = goods.take i ++ [sm] := by
  rw [List.take_add_one, h]; rfl
theorem disj_of {goods : List Sm} {tgt sm : Sm} {i : Nat} (hd : (goods ++ [tgt]).Pairwise Disj) (h : goods[i]? = some sm) : Disj sm tgt ∧ ∀ q ∈ goods.take i, Disj q sm := by
  have hi : i < goods.length := by
    rcases Nat.lt_or_ge i goods.length with q | q
    · exact q
    · rw [List.getElem?_eq_none q] at h; cases h
  obtain ⟨h1, h2, h3⟩ := List.pairwise_append.mp hd
  refine ⟨h3 sm (List.mem_of_getElem? h) tgt (List.mem_singleton.mpr rfl), fun q hq => ?_⟩
  have e : goods = goods.take i ++ goods.drop i := (List.take_append_drop i goods).symm
  rw [e] at h1
  have z := (List.pairwise_append.mp h1).2.2 q hq
  refine z sm ?_
  have : (goods.drop i)[0]? = some sm := by rw [List.getElem?_drop]; simpa using h
  exact List.mem_of_getElem? this
section
variable {w : World} {A₀ : Around} {s : Shared} {L a : Addr} {h₀ base : Heap} {m mg mb : Str → Option Value} {mean : ExcName → Option Value} {loose : List Str}
  {dp un : Nat} {gd : Option (List Code)} {cn : Str} {cs : Scope} {ccd : Value} {cl : List (Str × Addr)} {outer : List Env} {E : Value → Shared → Prop}
set_option maxHeartbeats 4000000 in
theorem turn_ok {Q : Value → Shared → Prop} {b : Bool} {t : Mid} {tgt sm : Sm} {k i : Nat} {cs' : List Addr} {goods : List Sm} {news news₁ : List (Addr × Obj)}
  (B : Below A₀ base outer h₀) (F : Fr h₀ L s.heap m) (X : (Mine.hd.heap_39 w.params).In h₀) (T : Top Mine.hd.view_39 loose mean mg mb h₀) (hk : cs.kind = .function)
  (N : News h₀ L s.heap news₁) (St : Stage t tgt k cs' goods news) (Sc : Scene b t k cs' goods news news₁ i) (hsm : goods[i]? = some sm)
  (hdp : dp + 50 < recursionLimit) (hun : un + 500 < cLine)
  (ret : ∀ news₂ h' tk', Fr h₀ L h' m → News h₀ L h' news₂ → Scene b t k cs' goods news news₂ (i + 1) → (∀ c o, s.heap.get? c = some o → c ∉ news₁.map (·.1) → h'.get? c = some o) → Keep [sm.d, t.dm, t.lm, t.dt] news₁ news₂ → Q .none {s with heap := h', toks := tk'})
  : wpAny (model pw w) (ktrTop dp un gd cn cs L a ccd cl outer) (call (.ref 43) [.ref sm.x, .ref tgt.x] [("after", .bool b)]) Q E s := by
  obtain ⟨ile, keep, mid, dn, adr⟩ := Sc
  have hi : i < goods.length := by
    rcases Nat.lt_or_ge i goods.length with q | q
    · exact q
    · rw [List.getElem?_eq_none q] at hsm; cases hsm
  have hmem := List.mem_of_getElem? hsm
  have mg' : sm ∈ goods ++ [tgt] := List.mem_append_left _ hmem
  have mt' : tgt ∈ goods ++ [tgt] := List.mem_append_right _ (List.mem_singleton.mpr rfl)
  obtain ⟨dst, dgo⟩ := disj_of St.disj hsm
  have aps := St.ap sm mg'
  have apt := St.ap tgt mt'
  -- what is not yet turned
  have still : ∀ q ∈ goods ++ [tgt], (∀ r ∈ goods.take i, Disj r q) → ∀ par, SmOk (Gl news) q par → SmOk (Gl news₁) q par := fun q hq hr par o => o.keeps fun c ob h1 h2 hc => keep (c, ob) hc fun hm => by
    rcases List.mem_append.mp hm with hm | hm
    · obtain ⟨r, hr', e⟩ := List.mem_map.mp hm
      have hrg : r ∈ goods := List.mem_of_mem_take hr'
      have rr := (St.gok r hrg).rd
      exact (hr r hr').ne rr.1 rr.2 h1 h2 e
    · have ap := St.ap q hq
      simp only [List.mem_cons, List.not_mem_nil, or_false] at hm
      rcases hm with e | e | e
      · exact ap.dm.ne h1 h2 e
      · exact ap.lm.ne h1 h2 e
      · exact ap.dt.ne h1 h2 e
  have dgt : ∀ r ∈ goods.take i, Disj r tgt := fun r hr => (List.pairwise_append.mp St.disj).2.2 r (List.mem_of_mem_take hr) tgt (List.mem_singleton.mpr rfl)
  have oks := still sm mg' dgo none (St.gok sm hmem)
  have okt := still tgt mt' dgt _ St.tok
  obtain ⟨es, n1, g1, g2, g3, g4, g5, g6⟩ := oks.ex
  obtain ⟨tes, n2, t1, t2, t3, t4, t5, t6⟩ := okt.ex
  obtain ⟨⟨mes, n3, pes, n5, n4, nt, m1, m2, m3, m4, m5, m6, m7, m8, m9, m10, m11, m12, m13, m14, m15, m16, m17⟩, hne1, hne2⟩ := mid
  have gx : ∀ c o, (c, o) ∈ news₁ → s.heap.get? c = some o := fun c o h => (N _ h).1
  have lenI : ((goods.take i).map Sm.x).length = i := by rw [List.length_map, List.length_take]; omega
  have hkl : k < cs'.length := by
    rcases Nat.lt_or_ge k cs'.length with q | q
    · exact q
    · have := St.idx; rw [List.getElem?_eq_none q] at this; cases this
  have clL := csAt_length b k cs' ((goods.take i).map Sm.x) hkl
  have cl40 := St.cl
  have nin' : ∀ x ∈ (goods.take i).map Sm.x, x ∉ cs' := fun x hx => by
    obtain ⟨q, hq, rfl⟩ := List.mem_map.mp hx
    exact St.nin q (List.mem_of_mem_take hq)
  have gl10 := St.gl
  refine insertAt_ok (x := sm.x) (C := sm.C) (d := sm.d) (t := tgt.x) (Ct := tgt.C) (td := tgt.d) (am := t.am) (dm := t.dm) (lm := t.lm) (at_ := t.at_) (dt := t.dt) (i := plAt b k ((goods.take i).map Sm.x)) (cs := csAt b k cs' ((goods.take i).map Sm.x)) B F X T hk
    ⟨⟨n1, gx _ _ g1, gx _ _ g2⟩, oks.cls, Nat.le_trans g5 (by simp), ⟨n2, gx _ _ t1, gx _ _ t2⟩, okt.cls, ⟨n3, gx _ _ m1, gx _ _ m2⟩, Nat.le_trans m7 (by omega), m9, m10, m11, m15, ⟨_, m13⟩, ⟨_, m17⟩, ⟨n4, gx _ _ m3⟩, ⟨n5, gx _ _ m4, gx _ _ m5⟩, fun c hc => ?_, by omega, Nat.le_trans m8 (by omega), ?_⟩
    (fun c hc => ?_) g3 t3 m12 m16 (csAt_at b k cs' _ _ St.idx) (csAt_first b k cs' _ _ St.idx St.nd nin') (by omega) (by omega) ?_
  · rcases csAt_mem hc with hc | hc
    · obtain ⟨C', d', hm⟩ := St.kids c hc
      refine ⟨C', d', gx _ _ (keep _ hm fun hs => ?_)⟩
      rcases List.mem_append.mp hs with hs | hs
      · obtain ⟨r, hr, e⟩ := List.mem_map.mp hs
        obtain ⟨_, _, _, rd, _⟩ := (St.gok r (List.mem_of_mem_take hr)).ex
        have e' : r.d = c := e
        rw [e'] at rd
        exact nomatch congrArg Obj.cls (St.fn _ _ _ hm rd)
      · obtain ⟨⟨_, _, _, _, _, _, _, i2, i3, _, i5, _⟩, _⟩ := St.mid
        simp only [List.mem_cons, List.not_mem_nil, or_false] at hs
        rcases hs with e | e | e <;> rw [e] at hm
        · exact nomatch congrArg Obj.cls (St.fn _ _ _ hm i2)
        · exact nomatch congrArg Obj.cls (St.fn _ _ _ hm i3)
        · exact nomatch congrArg Obj.cls (St.fn _ _ _ hm i5)
    · obtain ⟨q, hq, rfl⟩ := List.mem_map.mp hc
      obtain ⟨_, _, qo, _⟩ := (dn q hq).ex
      exact ⟨_, _, gx _ _ qo⟩
  · refine ⟨?_, ?_, ?_, ?_, ?_, hne1⟩
    · exact dst.ne oks.rd.1 oks.rd.2 okt.rd.1 okt.rd.2
    · exact aps.dm.ne oks.rd.1 oks.rd.2
    · exact aps.dt.ne oks.rd.1 oks.rd.2
    · exact (apt.dm.ne okt.rd.1 okt.rd.2).symm
    · exact (apt.dt.ne okt.rd.1 okt.rd.2).symm
  · have : ∃ o, (c, o) ∈ news₁ := by
      simp only [List.mem_cons, List.not_mem_nil, or_false] at hc
      rcases hc with rfl | rfl | rfl | rfl | rfl | rfl | rfl | rfl | rfl
      · exact ⟨_, g1⟩
      · exact ⟨_, g2⟩
      · exact ⟨_, t1⟩
      · exact ⟨_, t2⟩
      · exact ⟨_, m1⟩
      · exact ⟨_, m2⟩
      · exact ⟨_, m3⟩
      · exact ⟨_, m4⟩
      · exact ⟨_, m5⟩
    obtain ⟨o, ho⟩ := this
    exact ⟨(N _ ho).2.2, (N _ ho).2.1⟩
  · intro es' n' mes' mn' pes' pn' ln' h9 tk9 p1 e1 p2 e2 p3 e3 e4 ex
    have inA : ∀ {c o}, (c, o) ∈ news₁ → c ∈ news₁.map (·.1) := fun h => List.mem_map.mpr ⟨_, h, rfl⟩
    have S4 : ∀ c ∈ [sm.d, t.dm, t.lm, t.dt], ∃ o, (c, o) ∈ news₁ := fun c hc => by
      simp only [List.mem_cons, List.not_mem_nil, or_false] at hc
      rcases hc with rfl | rfl | rfl | rfl
      · exact ⟨_, g2⟩
      · exact ⟨_, m2⟩
      · exact ⟨_, m3⟩
      · exact ⟨_, m5⟩
    have ex' : Ext [sm.d, t.dm, t.lm, t.dt] s.heap h9 := ex.mono fun c hc => by
      simp only [List.mem_cons, List.not_mem_nil, or_false] at hc ⊢
      rcases hc with rfl | rfl | rfl | rfl <;> simp
    have F' : Fr h₀ L h9 m := ex'.fr F (fun h => by obtain ⟨o, ho⟩ := S4 _ h; exact (N _ ho).2.1 rfl) (fun c hc => by obtain ⟨o, ho⟩ := S4 c hc; exact (N _ ho).2.2)
    have N' : News h₀ L h9 (ledOf (news₁.map (·.1)) h9) := fun p hp => by
      obtain ⟨c, o⟩ := p
      obtain ⟨hc, ho⟩ := mem_ledOf.mp hp
      obtain ⟨q, hq, e⟩ := List.mem_map.mp hc
      have e' : q.1 = c := e
      exact ⟨ho, e' ▸ (N q hq).2.1, e' ▸ (N q hq).2.2⟩
    have K4 : Keep [sm.d, t.dm, t.lm, t.dt] news₁ (ledOf (news₁.map (·.1)) h9) := fun p hp hn => mem_ledOf.mpr ⟨List.mem_map.mpr ⟨p, hp, rfl⟩, ex' _ _ hn (gx _ _ hp)⟩
    have k4 : ∀ {c o}, (c, o) ∈ news₁ → c ≠ sm.d → c ≠ t.dm → c ≠ t.lm → c ≠ t.dt → (c, o) ∈ ledOf (news₁.map (·.1)) h9 := fun h a b c d => K4 _ h (by simp only [List.mem_cons, List.not_mem_nil, or_false, not_or]; exact ⟨a, b, c, d⟩)
    refine ret _ h9 tk9 F' N' ⟨hi, ?_, ?_, ?_, ?_⟩ (fun c o e hc => ex' c o (fun h => by obtain ⟨o', ho'⟩ := S4 c h; exact hc (inA ho')) e) K4
    · refine (keep.trans K4).mono fun c hc => ?_
      rw [take_next hsm]
      simp only [List.map_append, List.map_cons, List.map_nil, List.mem_append, List.mem_cons, List.not_mem_nil, or_false] at hc ⊢
      rcases hc with (hc | hc) | hc | hc | hc | hc
      · exact .inl (.inl hc)
      · exact .inr hc
      · exact .inl (.inr hc)
      · exact .inr (.inl hc)
      · exact .inr (.inr (.inl hc))
      · exact .inr (.inr (.inr hc))
    · have nx : ∀ {c o o'}, (c, o) ∈ news₁ → (c, o') ∈ news₁ → o = o' := fun h h' => by have a := gx _ _ h; have b := gx _ _ h'; rw [a] at b; exact Option.some.inj b
      have difc : ∀ {c c' o o'}, (c, o) ∈ news₁ → (c', o') ∈ news₁ → o.cls ≠ o'.cls → c ≠ c' := fun h h' hn e => by rw [e] at h; exact hn (congrArg Obj.cls (nx h h'))
      have dl : ("dict" : String) ≠ "list" := by decide
      rw [if_neg (Nat.succ_ne_zero i)]
      refine ⟨⟨mes', mn', pes', pn', ln', nt, k4 m1 (difc m1 g2 (fun e => nomatch e)) (difc m1 m2 (fun e => nomatch e)) (difc m1 m3 (fun e => nomatch e)) (difc m1 m5 (fun e => nomatch e)), mem_ledOf.mpr ⟨inA m2, e2⟩, mem_ledOf.mpr ⟨inA m3, ?_⟩, k4 m4 (difc m4 g2 (fun e => nomatch e)) (difc m4 m2 (fun e => nomatch e)) (difc m4 m3 (fun e => nomatch e)) (difc m4 m5 (fun e => nomatch e)), mem_ledOf.mpr ⟨inA m5, e3⟩,
        k4 m6 (difc m6 g2 (fun e => by injection e with e; exact dl e.symm)) (difc m6 m2 (fun e => by injection e with e; exact dl e.symm)) (fun e => hne2 e.symm) (difc m6 m5 (fun e => by injection e with e; exact dl e.symm)), Nat.le_trans p2.len (by omega), Nat.le_trans p3.len (by omega),
        (p2.other (by decide)).trans m9, (p2.other (by decide)).trans m10, (p2.other (by decide)).trans m11, (p2.other (by decide)).trans m12, p2.self, (p3.other (by decide)).trans m14, (p3.other (by decide)).trans m15, (p3.other (by decide)).trans m16, p3.self⟩, hne1, hne2⟩
      rw [e4, csAt_next b k cs' _ _ hkl, take_next hsm, List.map_append]
      rfl
    · intro q hq
      rw [take_next hsm] at hq
      rcases List.mem_append.mp hq with hq | hq
      · have okq := dn q hq
        have qg : q ∈ goods ++ [tgt] := List.mem_append_left _ (List.mem_of_mem_take hq)
        have apq := St.ap q qg
        exact okq.keeps fun c o h1 h2 hc => k4 hc ((dgo q hq).ne h1 h2 oks.rd.1 oks.rd.2) (apq.dm.ne h1 h2) (apq.lm.ne h1 h2) (apq.dt.ne h1 h2)
      · rw [List.mem_singleton.mp hq]
        refine oks.put (fun c o h1 h2 hn hc => k4 hc hn (aps.dm.ne h1 h2) (aps.lm.ne h1 h2) (aps.dt.ne h1 h2)) fun es0 n0 h0 => ?_
        have a := gx _ _ h0
        have b := gx _ _ g2
        rw [a] at b
        have b' := Option.some.inj b
        have b'' : (dictOf es0 n0).data = (dictOf es n1).data := congrArg Obj.data b'
        injection b'' with b1 b2
        have b3 : es0 = es := by
          have := congrArg Array.toList b1
          simpa using this
        subst b3
        exact ⟨es', n', p1, mem_ledOf.mpr ⟨inA g2, e1⟩⟩
    · intro p hp
      obtain ⟨c, o⟩ := p
      obtain ⟨hc, _⟩ := mem_ledOf.mp hp
      obtain ⟨q, hq, e⟩ := List.mem_map.mp hc
      have := adr q hq
      rw [show q.1 = c from e] at this
      exact this
end
end TX_Turn
-- Ib
section TX_Ib
/-- one turn goes through -/
def TurnGood (w : World) (mg mb : Str → Option Value) (mean : ExcName → Option Value) (loose : List Str) (b : Bool) (tx x : Addr) (J J' : List (Addr × Obj) → Prop) : Prop :=
  ∀ (A₀ : Around) (s : Shared) (L a : Addr) (h₀ base : Heap) (m : Str → Option Value) (dp un : Nat) (gd : Option (List Code)) (cn : Str) (cs : Scope) (ccd : Value) (cl : List (Str × Addr)) (outer : List Env) (Q E : Value → Shared → Prop) (news₁ : List (Addr × Obj)),
    Below A₀ base outer h₀ → Fr h₀ L s.heap m → (Mine.hd.heap_39 w.params).In h₀ → Top Mine.hd.view_39 loose mean mg mb h₀ → cs.kind = .function → News h₀ L s.heap news₁ → J news₁ → dp + 50 < recursionLimit → un + 500 < cLine →
    (∀ news₂ h' tk', Fr h₀ L h' m → News h₀ L h' news₂ → J' news₂ → (∀ c o, s.heap.get? c = some o → c ∉ news₁.map (·.1) → h'.get? c = some o) → Q .none {s with heap := h', toks := tk'}) →
    wpAny (model pw w) (ktrTop dp un gd cn cs L a ccd cl outer) (call (.ref 43) [.ref x, .ref tx] [("after", .bool b)]) Q E s
/-- one turn raises -/
def TurnBad (w : World) (mg mb : Str → Option Value) (mean : ExcName → Option Value) (loose : List Str) (b : Bool) (tx x : Addr) (J : List (Addr × Obj) → Prop) : Prop :=
  ∀ (A₀ : Around) (s : Shared) (L a : Addr) (h₀ base : Heap) (m : Str → Option Value) (dp un : Nat) (gd : Option (List Code)) (cn : Str) (cs : Scope) (ccd : Value) (cl : List (Str × Addr)) (outer : List Env) (Q E : Value → Shared → Prop) (news₁ : List (Addr × Obj)),
    Below A₀ base outer h₀ → Fr h₀ L s.heap m → (Mine.hd.heap_39 w.params).In h₀ → Top Mine.hd.view_39 loose mean mg mb h₀ → cs.kind = .function → News h₀ L s.heap news₁ → J news₁ → dp + 50 < recursionLimit → un + 500 < cLine →
    (∀ e h' tk', (∀ news, News h₀ L s.heap news → RaisedC base (envX cn cs L a ccd cl :: outer) e (.type "RuntimeError") news h') → (∃ g, Fr h₀ L g m ∧ g.UpToSlots h') → E (.ref e) {s with heap := h', toks := tk'}) →
    wpAny (model pw w) (ktrTop dp un gd cn cs L a ccd cl outer) (call (.ref 43) [.ref x, .ref tx] [("after", .bool b)]) Q E s
section
variable {w : World} {A₀ : Around} {s : Shared} {L a : Addr} {h₀ base : Heap} {m mg mb : Str → Option Value} {mean : ExcName → Option Value} {loose : List Str}
  {dp un : Nat} {gd : Option (List Code)} {cn : Str} {cs : Scope} {ccd : Value} {cl : List (Str × Addr)} {outer : List Env} {E : Value → Shared → Prop}
local macro_rules | `(tactic| wtm_at "exec For") => `(tactic| (k_here; (with_reducible show wpAny _ _ (exec (Stmt.For (Expr.Name (PySem.Str.ofString "node") _) _ _ [] _) _) _ _ _); with_unfolding_all ((rename Fr _ _ _ _ => F'); (refine For_S F' (by rfl) (by rfl) ?_))))
local macro_rules | `(tactic| wtm_at "call ref") => `(tactic| (k_here; (with_reducible show wpAny _ _ (call (Value.ref 43) _ _) _ _ _); refine Stop.mk ?_))
set_option maxHeartbeats 4000000 in
theorem before_spec {Q : Value → Shared → Prop} {hd tx : Addr} {ord : List Addr} {nl n : Nat} {news : List (Addr × Obj)} {J : Nat → List (Addr × Obj) → Prop}
  (B : Below A₀ base outer h₀) (F : Fr h₀ L s.heap m) (X : (Mine.hd.heap_39 w.params).In h₀) (T : Top Mine.hd.view_39 loose mean mg mb h₀) (hk : cs.kind = .function)
  (N : News h₀ L s.heap news) (hJ0 : J 0 news) (hhd : (hd, listOf (ord.map Value.ref).toArray nl) ∈ news) (hkeep : ∀ i news₁, J i news₁ → (hd, listOf (ord.map Value.ref).toArray nl) ∈ news₁) (hadr : ∀ i news₁, J i news₁ → ∀ p ∈ news₁, p.1 ∈ news.map (·.1))
  (good : ∀ i x, i < n → ord[i]? = some x → TurnGood w mg mb mean loose false tx x (J i) (J (i + 1))) (bad : ∀ x, ord[n]? = some x → TurnBad w mg mb mean loose false tx x (J n)) (hn : n ≤ ord.length)
  (hdp : dp + 60 < recursionLimit) (hun : un + 600 < cLine)
  (ret : n = ord.length → ∀ news' h' tk', Fr h₀ L h' m → News h₀ L h' news' → J n news' → Q .none {s with heap := h', toks := tk'})
  (exc : n < ord.length → ∀ e news' h' tk', RaisedC base (envX cn cs L a ccd cl :: outer) e (.type "RuntimeError") news' h' → (∃ g, Fr h₀ L g m ∧ g.UpToSlots h') → J n news' → E (.ref e) {s with heap := h', toks := tk'})
  : wpAny (model pw w) (ktrTop dp un gd cn cs L a ccd cl outer) (call (.ref 28) [.ref hd, .ref tx]) Q E s := by
  refine wpAny_call ?_
  k_dflt wtm_at "mine enterR"
  intro g L' h' F' N' B' X' T' l1 HG hL' FG
  have hFG : ∃ _u : Unit, Fr h₀ L g m := ⟨(), FG⟩
  clear FG
  have F₀ : ∃ _u : Unit, Fr h₀ L s.heap m := ⟨(), F⟩
  have N₀ : ∃ _u : Unit, News h₀ L s.heap news := ⟨(), N⟩
  clear X T N F
  have B₀ := B
  clear B
  (try dsimp only)
  (try k_fold)
  k_steps
  rename Fr _ _ _ _ => F2
  rename News _ _ _ _ => N2
  have lt2 : ∀ q ∈ news, q.1 < h'.objs.size := fun q hq => Heap.lt_size (N2 q hq).1
  have hhd2 := N2 _ hhd
  refine iter_listM (fun i news₁ => i ≤ n ∧ J i news₁) rfl F2 N2 hhd2.1 hhd2.2.1 ⟨Nat.zero_le _, hJ0⟩ ?_ ?_
  · intro i v news₁ h tk I oI hv hJ F3 N3 eI hIs hI0 hIL el hoff
    obtain ⟨hin, hJ⟩ := hJ
    obtain ⟨x, hx, rfl⟩ : ∃ x, ord[i]? = some x ∧ v = .ref x := by
      rw [List.getElem?_map] at hv
      obtain ⟨x, hx, e⟩ := Option.map_eq_some_iff.mp hv
      exact ⟨x, hx, e.symm⟩
    clear F2 N2
    k_steps
    unfold Stop
    rcases Nat.lt_or_ge i n with hlt | hge
    · refine good i x hlt hx _ _ _ _ _ _ _ _ _ _ _ _ _ _ _ _ _ _ B' F3 X' T' rfl N3 hJ (by ktr_room) (by ktr_units) fun news₂ h4 tk4 F4 N4 hJ4 ex4 => ?_
      clear F3
      k_steps
      refine MEnd.go (v' := some (.ref x)) (news' := news₂) F4 N4 (ex4 _ _ eI fun hm => ?_) (N4 _ (hkeep _ _ hJ4)).1 (fun p hp e => ?_) ⟨hlt, hJ4⟩ rfl
      · obtain ⟨p, hp, e⟩ := List.mem_map.mp hm
        exact hoff p hp e
      · obtain ⟨q, hq, e2⟩ := List.mem_map.mp (hadr _ _ hJ4 p hp)
        have z := lt2 q hq
        rw [show q.1 = I from e2.trans e] at z
        exact absurd (Nat.lt_of_lt_of_le z hIs) (Nat.lt_irrefl _)
    · have hie : i = n := Nat.le_antisymm hin hge
      subst hie
      refine bad x hx _ _ _ _ _ _ _ _ _ _ _ _ _ _ _ _ _ _ B' F3 X' T' rfl N3 hJ (by ktr_room) (by ktr_units) fun e h4 tk4 hR ⟨g2, F4, U4⟩ => ?_
      refine leave_onC B' F4 (hR news₁ N3) U4 fun h5 R5 U5 => ?_
      refine exc ?_ e news₁ h5 _ R5 ⟨g, hFG.elim fun _ q => q, U5⟩ hJ
      rcases Nat.lt_or_ge i ord.length with q | q
      · exact q
      · rw [List.getElem?_eq_none q] at hx; cases hx
  · intro v' news₁ h tk hJ F3 N3
    obtain ⟨hin, hJ⟩ := hJ
    rw [List.length_map] at hin hJ
    have hie : n = ord.length := Nat.le_antisymm hn hin
    clear F2 N2
    k_steps
    have adr : ∀ b ∈ news.map (·.1), b ≠ L ∧ h₀.get? b = none := fun b hb => by
      obtain ⟨q, hq, e⟩ := List.mem_map.mp hb
      have z := (N₀.elim fun _ q => q) q hq
      exact ⟨fun e2 => z.2.1 (e.trans e2), by rw [← show q.1 = b from e]; exact z.2.2⟩
    refine ret hie news₁ h _ ((ext_of HG F3).fr (F₀.elim fun _ q => q) (fun hm => (adr L hm).1 rfl) (fun b hb => (adr b hb).2)) (fun p hp => ⟨(N3 p hp).1, adr _ (hadr _ _ hJ p hp)⟩) (by rw [hie]; exact hJ)
end
end TX_Ib
-- Ia
section TX_Ia
section
variable {w : World} {A₀ : Around} {s : Shared} {L a : Addr} {h₀ base : Heap} {m mg mb : Str → Option Value} {mean : ExcName → Option Value} {loose : List Str}
  {dp un : Nat} {gd : Option (List Code)} {cn : Str} {cs : Scope} {ccd : Value} {cl : List (Str × Addr)} {outer : List Env} {E : Value → Shared → Prop}
local macro_rules | `(tactic| wtm_at "call ref") => `(tactic| (k_here; (with_reducible show wpAny _ _ (call (Value.ref 43) _ _) _ _ _); refine Stop.mk ?_))
local macro_rules | `(tactic| wtm_at "exec For") => `(tactic| (k_here; (with_reducible show wpAny _ _ (exec (Stmt.For (Expr.Name (PySem.Str.ofString "node") _) _ _ [] _) _) _ _ _); with_unfolding_all ((rename Fr _ _ _ _ => F'); (refine For_S F' (by rfl) (by rfl) ?_))))
local macro_rules | `(tactic| wtm_at "call type:reversed") => `(tactic| (k_here; refine Stop.mk ?_))
set_option maxHeartbeats 4000000 in
theorem after_spec {Q : Value → Shared → Prop} {hd tx : Addr} {ord : List Addr} {nl n : Nat} {news : List (Addr × Obj)} {J : Nat → List (Addr × Obj) → Prop}
  (B : Below A₀ base outer h₀) (F : Fr h₀ L s.heap m) (X : (Mine.hd.heap_39 w.params).In h₀) (T : Top Mine.hd.view_39 loose mean mg mb h₀) (hk : cs.kind = .function)
  (N : News h₀ L s.heap news) (hJ0 : J 0 news) (hhd : (hd, listOf (ord.map Value.ref).toArray nl) ∈ news) (hkeep : ∀ i news₁, J i news₁ → (hd, listOf (ord.map Value.ref).toArray nl) ∈ news₁) (hadr : ∀ i news₁, J i news₁ → ∀ p ∈ news₁, p.1 ∈ news.map (·.1))
  (good : ∀ i x, i < n → ord.reverse[i]? = some x → TurnGood w mg mb mean loose true tx x (J i) (J (i + 1))) (bad : ∀ x, ord.reverse[n]? = some x → TurnBad w mg mb mean loose true tx x (J n)) (hn : n ≤ ord.length)
  (hdp : dp + 60 < recursionLimit) (hun : un + 600 < cLine)
  (ret : n = ord.length → ∀ news' h' tk', Fr h₀ L h' m → News h₀ L h' news' → J n news' → Q .none {s with heap := h', toks := tk'})
  (exc : n < ord.length → ∀ e news' h' tk', RaisedC base (envX cn cs L a ccd cl :: outer) e (.type "RuntimeError") news' h' → (∃ g, Fr h₀ L g m ∧ g.UpToSlots h') → J n news' → E (.ref e) {s with heap := h', toks := tk'})
  : wpAny (model pw w) (ktrTop dp un gd cn cs L a ccd cl outer) (call (.ref 35) [.ref hd, .ref tx]) Q E s := by
  refine wpAny_call ?_
  k_dflt wtm_at "mine enterR"
  intro g L' h' F' N' B' X' T' l1 HG hL' FG
  have hFG : ∃ _u : Unit, Fr h₀ L g m := ⟨(), FG⟩
  clear FG
  have F₀ : ∃ _u : Unit, Fr h₀ L s.heap m := ⟨(), F⟩
  have N₀ : ∃ _u : Unit, News h₀ L s.heap news := ⟨(), N⟩
  clear X T N F
  have B₀ := B
  clear B
  (try dsimp only)
  (try k_fold)
  k_steps
  rename Fr _ _ _ _ => F2
  rename News _ _ _ _ => N2
  have lt2 : ∀ q ∈ news, q.1 < h'.objs.size := fun q hq => Heap.lt_size (N2 q hq).1
  have hhd2 := N2 _ hhd
  unfold Stop
  refine iter_revM (env := envOf _ _ L' _ _) (fun i news₁ => i ≤ n ∧ J i news₁) rfl F2 N2 hhd2.1 hhd2.2.1 ⟨Nat.zero_le _, hJ0⟩ ?_ ?_ (fun _ _ h => h)
  · intro i v news₁ h tk I oI hv hJ F3 N3 eI hIs hI0 hIL el hoff
    obtain ⟨hin, hJ⟩ := hJ
    obtain ⟨x, hx, rfl⟩ : ∃ x, ord.reverse[i]? = some x ∧ v = .ref x := by
      rw [← List.map_reverse, List.getElem?_map] at hv
      obtain ⟨x, hx, e⟩ := Option.map_eq_some_iff.mp hv
      exact ⟨x, hx, e.symm⟩
    clear F2 N2
    k_steps
    unfold Stop
    rcases Nat.lt_or_ge i n with hlt | hge
    · refine good i x hlt hx _ _ _ _ _ _ _ _ _ _ _ _ _ _ _ _ _ _ B' F3 X' T' rfl N3 hJ (by ktr_room) (by ktr_units) fun news₂ h4 tk4 F4 N4 hJ4 ex4 => ?_
      clear F3
      k_steps
      refine MEnd.go (v' := some (.ref x)) (news' := news₂) F4 N4 (ex4 _ _ eI fun hm => ?_) (N4 _ (hkeep _ _ hJ4)).1 (fun p hp e => ?_) ⟨hlt, hJ4⟩ rfl
      · obtain ⟨p, hp, e⟩ := List.mem_map.mp hm
        exact hoff p hp e
      · obtain ⟨q, hq, e2⟩ := List.mem_map.mp (hadr _ _ hJ4 p hp)
        have z := lt2 q hq
        rw [show q.1 = I from e2.trans e] at z
        exact absurd (Nat.lt_of_lt_of_le z hIs) (Nat.lt_irrefl _)
    · have hie : i = n := Nat.le_antisymm hin hge
      subst hie
      refine bad x hx _ _ _ _ _ _ _ _ _ _ _ _ _ _ _ _ _ _ B' F3 X' T' rfl N3 hJ (by ktr_room) (by ktr_units) fun e h4 tk4 hR ⟨g2, F4, U4⟩ => ?_
      refine leave_onC B' F4 (hR news₁ N3) U4 fun h5 R5 U5 => ?_
      refine exc ?_ e news₁ h5 _ R5 ⟨g, hFG.elim fun _ q => q, U5⟩ hJ
      rcases Nat.lt_or_ge i ord.reverse.length with q | q
      · exact List.length_reverse (as := ord) ▸ q
      · rw [List.getElem?_eq_none q] at hx; cases hx
  · intro v' news₁ h tk hJ F3 N3
    obtain ⟨hin, hJ⟩ := hJ
    rw [List.length_map] at hin hJ
    have hie : n = ord.length := Nat.le_antisymm hn hin
    clear F2 N2
    k_steps
    have adr : ∀ b ∈ news.map (·.1), b ≠ L ∧ h₀.get? b = none := fun b hb => by
      obtain ⟨q, hq, e⟩ := List.mem_map.mp hb
      have z := (N₀.elim fun _ q => q) q hq
      exact ⟨fun e2 => z.2.1 (e.trans e2), by rw [← show q.1 = b from e]; exact z.2.2⟩
    refine ret hie news₁ h _ ((ext_of HG F3).fr (F₀.elim fun _ q => q) (fun hm => (adr L hm).1 rfl) (fun b hb => (adr b hb).2)) (fun p hp => ⟨(N3 p hp).1, adr _ (hadr _ _ hJ p hp)⟩) (by rw [hie]; exact hJ)
end
end TX_Ia
-- Due
section TX_Due
def AllNe (d : Nat) : List (Addr × Obj) → Prop
  | [] => True
  | p :: r => @Ne Nat p.1 d ∧ AllNe d r
theorem allNe_of {d : Addr} {l : List (Addr × Obj)} (h : ∀ p ∈ l, p.1 ≠ d) : AllNe d l := by
  induction l with
  | nil => trivial
  | cons a r ih => exact ⟨h a (.head _), ih fun p hp => h p (.tail _ hp)⟩
/-- the new things, in the order in which they are put in -/
def ordOf {α : Type} (b : Bool) (xs : List α) : List α := if b = true then xs.reverse else xs
theorem MEnd2.brk {h₀ : Heap} {L : Addr} {x z : Str} {Q : Flow → Shared → Prop} {s : Shared} {m₀ m' : Str → Option Value} {I : Addr} {oI : Obj} {l : Addr} {ol : Obj} {J : Option Value → List (Addr × Obj) → Prop} {news' : List (Addr × Obj)} {h' : Heap} {g : Array GenState} {d : Drawn} {tk : Nat} {os : OsState} (F : Fr h₀ L h' m') (hm : ∀ y, y ≠ x → y ≠ z → m' y = m₀ y)
    (N : News h₀ L h' news') (hQ : ∀ v', Fr h₀ L h' (fun y => if y = x then v' else if y = z then m' z else m₀ y) → Q .next ⟨h', g, d, tk, os⟩) (hs : s = ⟨s.heap, g, d, s.toks, os⟩) : MEnd2 h₀ L x z m₀ I oI l ol J s Q .brk ⟨h', g, d, tk, os⟩ := by
  have e : (⟨h', g, d, tk, os⟩ : Shared) = { s with heap := h', toks := tk } := by rw [hs]
  exact ⟨h', tk, m', news', e, F, hm, N, fun v' h'' F'' N'' e'' => by subst e''; exact hQ v' F''⟩
theorem pick_upto (vs : List Value) {y : Int} (h : 0 ≤ y) : slicePick vs.toArray none (some y) none = (vs.take y.toNat).toArray := by
  have e : sliceBounds none (some y) none vs.toArray.size = (((0 : Nat) : Int), ((min y.toNat vs.toArray.size : Nat) : Int), 1) := by
    simp only [sliceBounds, Option.getD_none, show (1 : Int) > 0 by decide, if_true, if_neg (show ¬ (y < 0) by omega)]
    congr 1
    congr 1
    omega
  rw [kmk_pick_nat _ e]
  show ((vs.drop 0).take (min y.toNat vs.toArray.size - 0)).toArray = _
  rw [List.drop_zero, Nat.sub_zero, List.size_toArray, kmk_take_min]
theorem pick_from (vs : List Value) {x : Int} (h : 0 ≤ x) : slicePick vs.toArray (some x) none none = (vs.drop x.toNat).toArray := by
  have e : sliceBounds (some x) none none vs.toArray.size = (((min x.toNat vs.toArray.size : Nat) : Int), ((vs.toArray.size : Nat) : Int), 1) := by
    simp only [sliceBounds, Option.getD_none, show (1 : Int) > 0 by decide, if_true, if_neg (show ¬ (x < 0) by omega)]
    congr 1
    omega
  rw [kmk_pick_nat _ e]
  show ((vs.drop (min x.toNat vs.toArray.size)).take (vs.toArray.size - min x.toNat vs.toArray.size)).toArray = _
  rw [List.size_toArray, kmk_drop_min, List.take_of_length_le (by rw [List.length_drop]; omega)]
section
variable {prog : Program} {w : World} {A : Around} {E : Value → Shared → Prop} {s : Shared}
theorem eq_nil {l b : Addr} {vs : List Value} {Q : Value → Shared → Prop} (hl : s.heap.IsList l vs.toArray) (hb : s.heap.IsList b ([] : List Value).toArray) (hu : A.units < cLine) (h : Q (.bool vs.isEmpty) s) : wpAny (model prog w) A (compareOp .Eq (.ref l) (.ref b)) Q E s := by
  cases vs with
  | nil => exact PySem.SeqAt.eq_listAt (e := fun _ => true) hl hb rfl hu (fun j h1 => absurd h1 (Nat.not_lt_zero _)) h
  | cons v r => exact PySem.SeqAt.eq_list_lengthsAt hl hb (by simp) hu h
end
theorem ext_nil {news : List (Addr × Obj)} {h h' : Heap} (x : Ext (news.map (·.1)) h h') (N : ∀ p ∈ news, h.get? p.1 = some p.2) (N' : ∀ p ∈ news, h'.get? p.1 = some p.2) : Ext [] h h' := x.less fun b hb _ o e => by
  obtain ⟨p, hp, rfl⟩ := List.mem_map.mp hb
  rw [N p hp] at e
  exact (N' p hp).trans e
theorem fresh_of {S : List Addr} {h g : Heap} {D : Addr} (HG : ∀ b o, h.get? b = some o → b ∉ S → g.get? b = some o) (e : g.get? D = none) (hD : D ∉ S) : h.get? D = none := by
  cases q : h.get? D with
  | none => rfl
  | some o => rw [HG D o q hD] at e; cases e
section
variable {w : World} {A₀ : Around} {s : Shared} {L a : Addr} {h₀ base : Heap} {m mg mb : Str → Option Value} {mean : ExcName → Option Value} {loose : List Str}
  {dp un : Nat} {gd : Option (List Code)} {cn : Str} {cs : Scope} {ccd : Value} {cl : List (Str × Addr)} {outer : List Env} {E : Value → Shared → Prop}
local macro_rules | `(tactic| wtm_at "subscriptTail Name Slice ref ref") => `(tactic| (k_here; (with_reducible show wpAny _ _ (subscriptTail _ (PySem.Expr.Slice none none (some _) _) (Value.ref _) (Value.ref _)) _ _ _); k_dflt (refine' krv_lit ?F ?N ?l ?k ?e ?_ ?s ?t ?z; (case F => k_asm); (case N => k_asm); (case l => kmk_list); (case k => exact IsPart.int _ _); (case e => exact rfl); (case s => with_unfolding_all rfl); (case t => kmk_pure); (case z => assumption)); intro D' h' F' N' l1; (try k_lt l1); (try k_sweep)))
local macro_rules | `(tactic| wtm_at "exec For") => `(tactic| (k_here; (with_reducible show wpAny _ _ (exec (Stmt.For (Expr.Name (PySem.Str.ofString "one") _) _ _ [] _) _) _ _ _); with_unfolding_all ((rename Fr _ _ _ _ => F'); (refine For_S F' (by rfl) (by rfl) ?_))))
local macro_rules | `(tactic| wtm_at "compareOp Eq ref ref") => `(tactic| (k_here; (with_reducible show wpAny _ _ (compareOp CmpOp.Eq (Value.ref _) (Value.ref _)) _ _ _); k_dflt (refine' eq_nil ?k1 ?k2 ?k3 ?_; (case k1 => kmk_list); (case k2 => kmk_list); (case k3 => ktr_units); k_whole)))
set_option maxHeartbeats 4000000 in
theorem due_none {Q : Value → Shared → Prop} {nl : Addr} {xs : List Addr} {n : Nat} {vk : Value} {b : Bool}
  (B : Below A₀ base outer h₀) (F : Fr h₀ L s.heap m) (X : (Mine.hd.heap_39 w.params).In h₀) (T : Top Mine.hd.view_39 loose mean mg mb h₀) (hk : cs.kind = .function)
  (hl : s.heap.get? nl = some (listOf (xs.map Value.ref).toArray n)) (hl0 : h₀.get? nl = none) (hlL : nl ≠ L) (hxs : xs.length ≤ 10) (hvk : vk = .none ∨ ∃ kl, vk = .ref kl)
  (hdp : dp + 40 < recursionLimit) (hun : un + 400 < cLine)
  (ret : ∀ D h' tk', s.heap.get? D = none → Ext [] s.heap h' → h'.get? D = some (tupOf [vk, .bool xs.isEmpty]) → Q (.ref D) {s with heap := h', toks := tk'})
  : wpAny (model pw w) (ktrTop dp un gd cn cs L a ccd cl outer) (call (.ref 362) [.ref nl, .none, .none, vk, .bool b]) Q E s := by
  refine wpAny_call ?_
  have N : News h₀ L s.heap [(nl, listOf (xs.map Value.ref).toArray n)] := fun p hp => by
    rw [List.mem_singleton.mp hp]; exact ⟨hl, hlL, hl0⟩
  k_dflt wtm_at "mine enter"
  intro g L' h' F' N' B' X' T' l1 HG hL'
  clear F X T B N
  have hsz : ((xs.map Value.ref).toArray).size ≤ sizeLine := by
    rw [List.size_toArray, List.length_map]; simp only [sizeLine_eq]; omega
  (try dsimp only)
  (try k_fold)
  rcases b with _ | _
  all_goals rcases hvk with rfl | ⟨kl, rfl⟩
  all_goals k_steps
  all_goals (
    rename Fr _ _ _ _ => F1
    rename News _ _ _ _ => N1
    refine iter_listM2 (z := "put") (by decide) (fun i _ news => i = 0 ∧ (nl, listOf (xs.map Value.ref).toArray n) ∈ news) rfl F1 N1 (by first | exact (N1 _ (.head _)).1 | exact (N1 _ (.tail _ (.head _))).1) (by first | exact (N1 _ (.head _)).2.1 | exact (N1 _ (.tail _ (.head _))).2.1) ⟨rfl, ?_⟩ ?_ ?_
    · first | exact .tail _ (.head _) | exact .tail _ (.tail _ (.head _))
    · intro i v bb news₁ h tk I oI hv hJ F N hI hIs hI0 hIL hl9 hoff
      obtain ⟨rfl, mnl⟩ := hJ
      obtain ⟨x, hx, rfl⟩ : ∃ x, x ∈ xs ∧ v = .ref x := by
        have hm := List.mem_of_getElem? hv
        simp only [List.mem_reverse, List.mem_map] at hm
        obtain ⟨x, hx, e⟩ := hm
        exact ⟨x, hx, e.symm⟩
      obtain ⟨x1, xr, hxe⟩ : ∃ x1 xr, xs = x1 :: xr := by
        cases xs with
        | nil => cases hx
        | cons a b => exact ⟨a, b, rfl⟩
      clear F1 N1
      k_steps
      rename Fr _ _ _ _ => F2
      refine MEnd2.brk F2 (fun y h1 h2 => by simp only [h1, h2, if_false]) N (fun v' F9 => ?_) rfl
      have N9 := N
      clear F2 N
      k_steps
      rename Fr _ _ _ _ => F10
      rename News _ _ _ _ => N10
      have gnl := (N10 _ (.tail _ (.tail _ mnl))).1
      refine ret _ _ _ (fresh_of HG (N10 _ (.head _)).2.2 fun hm => ?_) (ext_nil (ext_of HG F10) (fun p hp => by rw [List.mem_singleton.mp hp]; exact hl) (fun p hp => by rw [List.mem_singleton.mp hp]; exact gnl)) ?_
      · exact ne_cls (N10 _ (.head _)).1 gnl (fun e => by injection e with e; revert e; decide) (List.mem_singleton.mp hm)
      · have z := (N10 _ (.head _)).1
        simp only [List.isEmpty_map] at z
        exact z
    · intro aa bb news₁ h tk hJ F N
      obtain ⟨h0, mnl⟩ := hJ
      clear F1 N1
      k_steps
      rename Fr _ _ _ _ => F10
      rename News _ _ _ _ => N10
      have gnl := (N10 _ (.tail _ (.tail _ mnl))).1
      refine ret _ _ _ (fresh_of HG (N10 _ (.head _)).2.2 fun hm => ?_) (ext_nil (ext_of HG F10) (fun p hp => by rw [List.mem_singleton.mp hp]; exact hl) (fun p hp => by rw [List.mem_singleton.mp hp]; exact gnl)) ?_
      · exact ne_cls (N10 _ (.head _)).1 gnl (fun e => by injection e with e; revert e; decide) (List.mem_singleton.mp hm)
      · have z := (N10 _ (.head _)).1
        simp only [List.isEmpty_map] at z
        exact z)
end
end TX_Due
-- Due2
section TX_Due2
def putOf {α : Type} (b : Bool) (xs : List α) (i : Nat) : List α := if b = true then ((ordOf b xs).take i).reverse else (ordOf b xs).take i
section
variable {prog : Program} {w : World} {A : Around} {E : Value → Shared → Prop} {s : Shared} {h₀ : Heap} {L a b l : Addr} {m : Str → Option Value} {news : List (Addr × Obj)} {xs ys : List Addr} {x : Addr} {Q : Value → Shared → Prop} {value slice : PySem.Expr}
theorem add_refs (F : Fr h₀ L s.heap m) (N : News h₀ L s.heap news) (ha : s.heap.IsList a (xs.map Value.ref).toArray) (hb : s.heap.IsList b (ys.map Value.ref).toArray) (hz : xs.length + ys.length ≤ 100)
    (h : ∀ D h', Fr h₀ L h' m → News h₀ L h' ((D, listOf ((xs ++ ys).map Value.ref).toArray 0) :: news) → (∀ p ∈ news, p.1 < D) → Q (.ref D) { s with heap := h' }) : wpAny (model prog w) A (binaryOp .Add (.ref a) (.ref b)) Q E s :=
  kmk_add_lit F N ha hb (by simp) h (by simp only [List.length_map, sizeLine_eq]; omega)
theorem add_refL (F : Fr h₀ L s.heap m) (N : News h₀ L s.heap news) (ha : s.heap.IsList a [Value.ref x].toArray) (hb : s.heap.IsList b (ys.map Value.ref).toArray) (hz : ys.length ≤ 100)
    (h : ∀ D h', Fr h₀ L h' m → News h₀ L h' ((D, listOf ((x :: ys).map Value.ref).toArray 0) :: news) → (∀ p ∈ news, p.1 < D) → Q (.ref D) { s with heap := h' }) : wpAny (model prog w) A (binaryOp .Add (.ref a) (.ref b)) Q E s :=
  kmk_add_lit F N ha hb (by simp) h (by simp only [List.length_map, List.length_cons, List.length_nil, sizeLine_eq]; omega)
theorem add_refR (F : Fr h₀ L s.heap m) (N : News h₀ L s.heap news) (ha : s.heap.IsList a (ys.map Value.ref).toArray) (hb : s.heap.IsList b [Value.ref x].toArray) (hz : ys.length ≤ 100)
    (h : ∀ D h', Fr h₀ L h' m → News h₀ L h' ((D, listOf ((ys ++ [x]).map Value.ref).toArray 0) :: news) → (∀ p ∈ news, p.1 < D) → Q (.ref D) { s with heap := h' }) : wpAny (model prog w) A (binaryOp .Add (.ref a) (.ref b)) Q E s :=
  kmk_add_lit F N ha hb (by simp) h (by simp only [List.length_map, List.length_cons, List.length_nil, sizeLine_eq]; omega)
theorem slice_upto {y : Int} {u : Tok} (F : Fr h₀ L s.heap m) (N : News h₀ L s.heap news) (hl : s.heap.IsList l (xs.map Value.ref).toArray) (hy : 0 ≤ y) (hx : xs.length ≤ 100)
    (h : ∀ D h', Fr h₀ L h' m → News h₀ L h' ((D, listOf ((xs.take y.toNat).map Value.ref).toArray 0) :: news) → (∀ p ∈ news, p.1 < D) → Q (.ref D) { s with heap := h' })
    (hs : subscripted slice false (.ref l) (.ref s.heap.objs.size) = operate [.ref s.heap.objs.size, .ref l] (getItem (.ref l) (.ref s.heap.objs.size))) (ht : ∀ r, letTemporaryGo value (.ref l) r = pure ()) :
    wpAny (model prog w) A (subscriptTail value slice (.ref l) (.ref s.heap.objs.size)) Q E { s with heap := s.heap.push { cls := .type "slice", data := .fields #[.none, .int y u, .none] } } :=
  kmk_slice_lit F N hl .none (.int _ _) (by rw [pick_upto _ hy, List.map_take]) h hs ht (by rw [List.size_toArray, List.length_map, sizeLine_eq]; omega)
theorem slice_from {y : Int} {u : Tok} (F : Fr h₀ L s.heap m) (N : News h₀ L s.heap news) (hl : s.heap.IsList l (xs.map Value.ref).toArray) (hy : 0 ≤ y) (hx : xs.length ≤ 100)
    (h : ∀ D h', Fr h₀ L h' m → News h₀ L h' ((D, listOf ((xs.drop y.toNat).map Value.ref).toArray 0) :: news) → (∀ p ∈ news, p.1 < D) → Q (.ref D) { s with heap := h' })
    (hs : subscripted slice false (.ref l) (.ref s.heap.objs.size) = operate [.ref s.heap.objs.size, .ref l] (getItem (.ref l) (.ref s.heap.objs.size))) (ht : ∀ r, letTemporaryGo value (.ref l) r = pure ()) :
    wpAny (model prog w) A (subscriptTail value slice (.ref l) (.ref s.heap.objs.size)) Q E { s with heap := s.heap.push { cls := .type "slice", data := .fields #[.int y u, .none, .none] } } :=
  kmk_slice_lit F N hl (.int _ _) .none (by rw [pick_from _ hy, List.map_drop]) h hs ht (by rw [List.size_toArray, List.length_map, sizeLine_eq]; omega)
theorem len_refs (hl : s.heap.IsList l (xs.map Value.ref).toArray) (hx : xs.length ≤ 100) (h : Q (.int (xs.length : Int) (s.toks + 1)) { s with toks := s.toks + 1 + 1 }) : wpAny (model prog w) A (call (.builtin "len") [.ref l]) Q E s := by
  have e : (((xs.map Value.ref).toArray.size : Nat) : Int) = (xs.length : Int) := by rw [List.size_toArray, List.length_map]
  exact kun_lenL hl e (by omega) h
end
theorem ordOf_length {α : Type} (b : Bool) (xs : List α) : (ordOf b xs).length = xs.length := by cases b <;> simp [ordOf]
theorem putOf_length {α : Type} (b : Bool) (xs : List α) (i : Nat) : (putOf b xs i).length = min i xs.length := by cases b <;> simp [putOf, ordOf]
theorem putOf_next {α : Type} {b : Bool} {xs : List α} {i : Nat} {x : α} (h : (ordOf b xs)[i]? = some x) : putOf b xs (i + 1) = if b = true then x :: putOf b xs i else putOf b xs i ++ [x] := by
  unfold putOf
  rw [List.take_add_one, h]
  cases b <;> simp
theorem csAt_put (b : Bool) (k : Nat) (cs xs : List Addr) (i : Nat) : csAt b k cs ((ordOf b xs).take i) = cs.take (if b = true then k + 1 else k) ++ putOf b xs i ++ cs.drop (if b = true then k + 1 else k) := by
  unfold csAt putOf; cases b <;> simp
theorem intBeq (a b : Nat) : ((a : Int) == (b : Int)) = decide (a = b) := by
  by_cases h : a = b
  · subst h; simp
  · have : (a : Int) ≠ b := by omega
    simp [h, this]
section
variable {w : World} {A₀ : Around} {s : Shared} {L a : Addr} {h₀ base : Heap} {m mg mb : Str → Option Value} {mean : ExcName → Option Value} {loose : List Str}
  {dp un : Nat} {gd : Option (List Code)} {cn : Str} {cs : Scope} {ccd : Value} {cl : List (Str × Addr)} {outer : List Env} {E : Value → Shared → Prop}
local macro_rules | `(tactic| wtm_at "subscriptTail Name Slice ref ref") => `(tactic| (k_here; (with_reducible show wpAny _ _ (subscriptTail _ (PySem.Expr.Slice none none (some _) _) (Value.ref _) (Value.ref _)) _ _ _); k_dflt (refine' krv_lit ?F ?N ?l ?k ?e ?_ ?s ?t ?z; (case F => k_asm); (case N => k_asm); (case l => kmk_list); (case k => exact IsPart.int _ _); (case e => exact rfl); (case s => with_unfolding_all rfl); (case t => kmk_pure); (case z => assumption)); intro D' h' F' N' l1; (try k_lt l1); (try k_sweep)))
local macro_rules | `(tactic| wtm_at "exec For") => `(tactic| (k_here; (with_reducible show wpAny _ _ (exec (Stmt.For (Expr.Name (PySem.Str.ofString "one") _) _ _ [] _) _) _ _ _); with_unfolding_all ((rename Fr _ _ _ _ => F'); (refine For_S F' (by rfl) (by rfl) ?_))))
local macro_rules | `(tactic| wtm_at "compareOp Eq ref ref") => `(tactic| (k_here; (with_reducible show wpAny _ _ (compareOp CmpOp.Eq (Value.ref _) (Value.ref _)) _ _ _); k_dflt (refine' eq_nil ?k1 ?k2 ?k3 ?_; (case k1 => kmk_list); (case k2 => kmk_list); (case k3 => ktr_units); k_whole)))
local macro_rules | `(tactic| wtm_at "subscriptTail Name Slice ref ref") => `(tactic| (k_here; (with_reducible show wpAny _ _ (subscriptTail _ (PySem.Expr.Slice _ _ none _) (Value.ref _) (Value.ref _)) _ _ _); k_dflt (first | (refine' slice_upto ?F ?N ?l ?p ?q ?_ ?s ?t; (case F => k_asm); (case N => k_asm); (case l => kmk_list); (case p => omega); (case q => ((try simp only [List.length_take, List.length_drop, List.length_append, List.length_cons, List.length_nil, List.length_reverse]); omega)); (case s => with_unfolding_all rfl); (case t => kmk_pure)) | (refine' slice_from ?F ?N ?l ?p ?q ?_ ?s ?t; (case F => k_asm); (case N => k_asm); (case l => kmk_list); (case p => omega); (case q => omega); (case s => with_unfolding_all rfl); (case t => kmk_pure))); intro D' h' F' N' l1; (try k_lt l1); (try k_sweep)))
local macro_rules | `(tactic| wtm_at "binaryOp Add ref ref") => `(tactic| (k_here; (with_reducible show wpAny _ _ (binaryOp _ (Value.ref _) (Value.ref _)) _ _ _); k_dflt (first
  | (refine' add_refs ?F ?N ?a ?b ?z ?_; (case F => k_asm); (case N => k_asm); (case a => kmk_list); (case b => kmk_list); (case z => ((try simp only [List.length_take, List.length_drop, List.length_append, List.length_cons, List.length_nil, List.length_reverse]); omega)))
  | (refine' add_refL ?F ?N ?a ?b ?z ?_; (case F => k_asm); (case N => k_asm); (case a => kmk_list); (case b => kmk_list); (case z => (try simp only [List.length_take, List.length_drop, List.length_append, List.length_cons, List.length_nil, List.length_reverse]); omega))
  | (refine' add_refR ?F ?N ?a ?b ?z ?_; (case F => k_asm); (case N => k_asm); (case a => kmk_list); (case b => kmk_list); (case z => (try simp only [List.length_take, List.length_drop, List.length_append, List.length_cons, List.length_nil, List.length_reverse]); omega))); intro D' h' F' N' l1; (try k_lt l1); (try k_sweep)))
local macro_rules | `(tactic| wtm_at "call builtin:len") => `(tactic| (k_here; (with_reducible show wpAny _ _ (call (Value.builtin "len") [Value.ref _]) _ _ _); k_dflt (refine' len_refs ?k1 ?k2 ?_; (case k1 => kmk_list); (case k2 => ((try simp only [List.length_take, List.length_drop, List.length_append, List.length_cons, List.length_nil, List.length_reverse]); omega)); k_whole)))
local macro_rules | `(tactic| k_ne) => `(tactic| (refine neN ?_; (try dsimp only); first | with_reducible assumption | exact Ne.symm (by with_reducible assumption)))
local macro_rules | `(tactic| wtm_at "compareOp Is ref ref") => `(tactic| (k_here; (with_reducible show wpAny _ _ (compareOp CmpOp.Is (Value.ref _) (Value.ref _)) _ _ _); k_dflt (refine' kto_is ?a ?b ?n ?c ?_; (case a => exact Fr.keep (by k_asm) _ _ (by with_reducible assumption)); (case b => exact Fr.keep (by k_asm) _ _ (by with_reducible assumption)); (case n => k_ne); (case c => kto_not); k_whole)))
set_option maxHeartbeats 4000000 in
theorem due_list {Q : Value → Shared → Prop} {nl kl : Addr} {xs cs' : List Addr} {n n2 k : Nat} {vt : Value} {b : Bool} {u : Tok}
  (B : Below A₀ base outer h₀) (F : Fr h₀ L s.heap m) (X : (Mine.hd.heap_39 w.params).In h₀) (T : Top Mine.hd.view_39 loose mean mg mb h₀) (hk : cs.kind = .function)
  (hl : s.heap.get? nl = some (listOf (xs.map Value.ref).toArray n)) (hl0 : h₀.get? nl = none) (hlL : nl ≠ L) (hxs : xs.length ≤ 10)
  (hc : s.heap.get? kl = some (listOf (cs'.map Value.ref).toArray n2)) (hc0 : h₀.get? kl = none) (hcL : kl ≠ L) (hcs : cs'.length ≤ 10) (hkk : k ≤ 10) (hob : ∀ x ∈ xs, ∃ C d, s.heap.get? x = some (instObj C d)) (hvt : vt = .none ∨ ∃ T ∈ xs, vt = .ref T)
  (hdp : dp + 40 < recursionLimit) (hun : un + 400 < cLine)
  (ret : ∀ D l i n' h' tk', i ≤ xs.length → (∀ j, j < i → ∀ x, (ordOf b xs)[j]? = some x → vt ≠ .ref x) → (i < xs.length → ∃ x, (ordOf b xs)[i]? = some x ∧ vt = .ref x) → s.heap.get? D = none → s.heap.get? l = none → Ext [] s.heap h' →
    h'.get? D = some (tupOf [.ref l, .bool (decide (i = xs.length))]) → h'.get? l = some (listOf ((csAt b k cs' ((ordOf b xs).take i)).map Value.ref).toArray n') → Q (.ref D) {s with heap := h', toks := tk'})
  : wpAny (model pw w) (ktrTop dp un gd cn cs L a ccd cl outer) (call (.ref 362) [.ref nl, vt, .int (k : Int) u, .ref kl, .bool b]) Q E s := by
  refine wpAny_call ?_
  have N : News h₀ L s.heap [(nl, listOf (xs.map Value.ref).toArray n), (kl, listOf (cs'.map Value.ref).toArray n2)] := fun p hp => by
    rcases List.mem_cons.mp hp with rfl | hp
    · exact ⟨hl, hlL, hl0⟩
    · rw [List.mem_singleton.mp hp]; exact ⟨hc, hcL, hc0⟩
  k_dflt wtm_at "mine enter"
  intro g L' h' F' N' B' X' T' l1 HG hL'
  have hgo : ∀ x ∈ xs, ∃ C d, g.get? x = some (instObj C d) := fun x hx => by
    obtain ⟨C, d, e⟩ := hob x hx
    refine ⟨C, d, HG x _ e fun hm => ?_⟩
    simp only [List.map_cons, List.map_nil, List.mem_cons, List.not_mem_nil, or_false] at hm
    rcases hm with q | q
    · exact ne_cls e hl (fun e => nomatch e) q
    · exact ne_cls e hc (fun e => nomatch e) q
  clear F X T B N
  have hsz : ((xs.map Value.ref).toArray).size ≤ sizeLine := by
    rw [List.size_toArray, List.length_map]; simp only [sizeLine_eq]; omega
  (try dsimp only)
  (try k_fold)
  rcases b with _ | _
  all_goals k_steps
  all_goals (
    rename Fr _ _ _ _ => F1
    rename News _ _ _ _ => N1)
  · refine iter_listM2 (z := "put") (by decide) (fun i b news => ∃ P nP, b = some (.ref P) ∧ (P, listOf ((putOf false xs i).map Value.ref).toArray nP) ∈ news ∧ (nl, listOf (xs.map Value.ref).toArray n) ∈ news ∧ (kl, listOf (cs'.map Value.ref).toArray n2) ∈ news ∧ ∀ j, j < i → ∀ x, (ordOf false xs)[j]? = some x → vt ≠ .ref x) rfl F1 N1 (N1 _ (.tail _ (.head _))).1 (N1 _ (.tail _ (.head _))).2.1 ⟨_, 0, rfl, .head _, .tail _ (.head _), .tail _ (.tail _ (.head _)), fun j h => absurd h (Nat.not_lt_zero _)⟩ ?_ ?_
    · intro i v bb news₁ h tk I oI hv hJ F N hI hIs hI0 hIL hl9 hoff
      obtain ⟨P, nP, rfl, mP, mnl, mkl, hno⟩ := hJ
      obtain ⟨x, hx, rfl⟩ : ∃ x, (ordOf false xs)[i]? = some x ∧ v = .ref x := by
        rw [List.getElem?_map] at hv
        obtain ⟨x, hx, e⟩ := Option.map_eq_some_iff.mp hv
        exact ⟨x, hx, e.symm⟩
      have hilt : i < xs.length := by
        rcases Nat.lt_or_ge i xs.length with q | q
        · exact q
        · rw [List.getElem?_eq_none (by rw [ordOf_length]; exact q)] at hx; cases hx
      have hlen : (putOf false xs i).length ≤ 10 := by rw [putOf_length]; omega
      have hnx := putOf_next hx
      obtain ⟨Cx, dx, gx⟩ := hgo x (List.mem_of_getElem? hx)
      have NI : News g L' h ((I, oI) :: (_, _) :: news₁) := fun p hp => by
        rcases List.mem_cons.mp hp with rfl | hp
        · exact ⟨hI, hIL, hI0⟩
        rcases List.mem_cons.mp hp with rfl | hp
        · exact ⟨hl9, (N1 _ (.tail _ (.head _))).2⟩
        · exact N p hp
      clear F1 N1
      by_cases hT : vt = .ref x
      · subst hT
        clear NI
        k_steps
        rename Fr _ _ _ _ => F2
        refine MEnd2.brk F2 (fun y h1 h2 => by simp only [h1, h2, if_false]) N (fun v' F9 => ?_) rfl
        have N9 := N
        obtain ⟨ii, hii⟩ : ∃ ii, ii = i := ⟨_, rfl⟩
        subst hii
        have hile : ii ≤ xs.length := Nat.le_of_lt hilt
        have hbad : ii < xs.length → ∃ y, (ordOf false xs)[ii]? = some y ∧ Value.ref x = .ref y := fun _ => ⟨x, hx, rfl⟩
        clear F2 N
        k_steps
        rename Fr _ _ _ _ => F10
        rename News _ _ _ _ => N10
        rename_i D1 h1 e1 D0 hh0 e0
        have gnl := (N10 _ (.tail _ (.tail _ (.tail _ (.tail _ (.tail _ mnl)))))).1
        have gkl := (N10 _ (.tail _ (.tail _ (.tail _ (.tail _ (.tail _ mkl)))))).1
        have lt1 := allLt_mem e1.2.2.2
        have lt0 := allLt_mem e0.2.2.2.2
        refine ret D0 D1 ii 0 _ _ hile hno hbad (fresh_of HG (N10 _ (.head _)).2.2 fun hm => ?_) (fresh_of HG (N10 _ (.tail _ (.head _))).2.2 fun hm => ?_) (ext_nil (ext_of HG F10) (fun p hp => ?_) (fun p hp => ?_)) ?_ ?_
        · simp only [List.map_cons, List.map_nil, List.mem_cons, List.not_mem_nil, or_false] at hm
          rcases hm with e | e
          · exact absurd (lt0 _ mnl) (by rw [e]; exact Nat.lt_irrefl _)
          · exact absurd (lt0 _ mkl) (by rw [e]; exact Nat.lt_irrefl _)
        · simp only [List.map_cons, List.map_nil, List.mem_cons, List.not_mem_nil, or_false] at hm
          rcases hm with e | e
          · exact absurd (lt1 _ mnl) (by rw [e]; exact Nat.lt_irrefl _)
          · exact absurd (lt1 _ mkl) (by rw [e]; exact Nat.lt_irrefl _)
        · simp only [List.mem_cons, List.not_mem_nil, or_false] at hp
          rcases hp with rfl | rfl
          · exact hl
          · exact hc
        · simp only [List.mem_cons, List.not_mem_nil, or_false] at hp
          rcases hp with rfl | rfl
          · exact gnl
          · exact gkl
        · have z := (N10 _ (.head _)).1
          rw [intBeq, putOf_length, Nat.min_eq_left hile] at z
          exact z
        · have z := (N10 _ (.tail _ (.head _))).1
          rw [Int.toNat_natCast] at z
          rw [csAt_put]
          exact z
      · have hno' : ∀ j, j < i + 1 → ∀ x, (ordOf false xs)[j]? = some x → vt ≠ .ref x := fun j hj y hy => by
          rcases Nat.lt_succ_iff_lt_or_eq.mp hj with q | rfl
          · exact hno j q y hy
          · rw [hx] at hy; cases hy; exact hT
        clear N
        rcases hvt with rfl | ⟨T, hTm, rfl⟩
        · k_steps
          rename Fr _ _ _ _ => F2
          rename News _ _ _ _ => N2
          rename_i D0 ha FF NN e0 hst
          rw [show putOf false xs i ++ [x] = putOf false xs (i + 1) from hnx.symm] at N2
          refine MEnd2.go (news' := (D0, _) :: news₁) F2 (fun y h1 h2 => by simp only [h1, h2, if_false]) (fun p hp => N2 p ?_) (N2 _ (.tail _ (.tail _ (.head _)))).1 (N2 _ (.tail _ (.tail _ (.tail _ (.head _))))).1 (fun p hp => ?_) ⟨_, 0, rfl, .head _, .tail _ mnl, .tail _ mkl, hno'⟩ rfl
          · rcases List.mem_cons.mp hp with rfl | hp
            · exact .head _
            · exact .tail _ (.tail _ (.tail _ (.tail _ hp)))
          · rcases List.mem_cons.mp hp with rfl | hp
            · exact (Nat.ne_of_lt e0.2.1).symm
            · exact hoff p hp
        · have hne : @Ne Nat x T := fun e => hT (congrArg Value.ref e.symm)
          obtain ⟨CT, dT, gT⟩ := hgo T hTm
          k_steps
          rename Fr _ _ _ _ => F2
          rename News _ _ _ _ => N2
          rename_i D0 ha FF NN e0 hst
          rw [show putOf false xs i ++ [x] = putOf false xs (i + 1) from hnx.symm] at N2
          refine MEnd2.go (news' := (D0, _) :: news₁) F2 (fun y h1 h2 => by simp only [h1, h2, if_false]) (fun p hp => N2 p ?_) (N2 _ (.tail _ (.tail _ (.head _)))).1 (N2 _ (.tail _ (.tail _ (.tail _ (.head _))))).1 (fun p hp => ?_) ⟨_, 0, rfl, .head _, .tail _ mnl, .tail _ mkl, hno'⟩ rfl
          · rcases List.mem_cons.mp hp with rfl | hp
            · exact .head _
            · exact .tail _ (.tail _ (.tail _ (.tail _ hp)))
          · rcases List.mem_cons.mp hp with rfl | hp
            · exact (Nat.ne_of_lt e0.2.1).symm
            · exact hoff p hp
    · intro aa bb news₁ h tk hJ F N
      rw [List.length_map] at hJ
      obtain ⟨P, nP, rfl, mP, mnl, mkl, hno⟩ := hJ
      obtain ⟨ii, hii⟩ : ∃ ii, ii = xs.length := ⟨_, rfl⟩
      rw [← hii] at mP hno
      have hile : ii ≤ xs.length := Nat.le_of_eq hii
      have hbad : ii < xs.length → ∃ y, (ordOf false xs)[ii]? = some y ∧ vt = .ref y := fun h => absurd h (by rw [hii]; exact Nat.lt_irrefl _)
      have hlen : (putOf false xs ii).length ≤ 10 := by rw [putOf_length]; omega
      clear F1 N1
      k_steps
      rename Fr _ _ _ _ => F10
      rename News _ _ _ _ => N10
      rename_i D1 h1 e1 D0 hh0 e0
      have gnl := (N10 _ (.tail _ (.tail _ (.tail _ (.tail _ (.tail _ mnl)))))).1
      have gkl := (N10 _ (.tail _ (.tail _ (.tail _ (.tail _ (.tail _ mkl)))))).1
      have lt1 := allLt_mem e1.2.2.2
      have lt0 := allLt_mem e0.2.2.2.2
      refine ret D0 D1 ii 0 _ _ hile hno hbad (fresh_of HG (N10 _ (.head _)).2.2 fun hm => ?_) (fresh_of HG (N10 _ (.tail _ (.head _))).2.2 fun hm => ?_) (ext_nil (ext_of HG F10) (fun p hp => ?_) (fun p hp => ?_)) ?_ ?_
      · simp only [List.map_cons, List.map_nil, List.mem_cons, List.not_mem_nil, or_false] at hm
        rcases hm with e | e
        · exact absurd (lt0 _ mnl) (by rw [e]; exact Nat.lt_irrefl _)
        · exact absurd (lt0 _ mkl) (by rw [e]; exact Nat.lt_irrefl _)
      · simp only [List.map_cons, List.map_nil, List.mem_cons, List.not_mem_nil, or_false] at hm
        rcases hm with e | e
        · exact absurd (lt1 _ mnl) (by rw [e]; exact Nat.lt_irrefl _)
        · exact absurd (lt1 _ mkl) (by rw [e]; exact Nat.lt_irrefl _)
      · simp only [List.mem_cons, List.not_mem_nil, or_false] at hp
        rcases hp with rfl | rfl
        · exact hl
        · exact hc
      · simp only [List.mem_cons, List.not_mem_nil, or_false] at hp
        rcases hp with rfl | rfl
        · exact gnl
        · exact gkl
      · have z := (N10 _ (.head _)).1
        rw [intBeq, putOf_length, Nat.min_eq_left hile] at z
        exact z
      · have z := (N10 _ (.tail _ (.head _))).1
        rw [Int.toNat_natCast] at z
        rw [csAt_put]
        exact z
  · refine iter_listM2 (z := "put") (by decide) (fun i b news => ∃ P nP, b = some (.ref P) ∧ (P, listOf ((putOf true xs i).map Value.ref).toArray nP) ∈ news ∧ (nl, listOf (xs.map Value.ref).toArray n) ∈ news ∧ (kl, listOf (cs'.map Value.ref).toArray n2) ∈ news ∧ ∀ j, j < i → ∀ x, (ordOf true xs)[j]? = some x → vt ≠ .ref x) rfl F1 N1 (N1 _ (.head _)).1 (N1 _ (.head _)).2.1 ⟨_, 0, rfl, .tail _ (.head _), .tail _ (.tail _ (.head _)), .tail _ (.tail _ (.tail _ (.head _))), fun j h => absurd h (Nat.not_lt_zero _)⟩ ?_ ?_
    · intro i v bb news₁ h tk I oI hv hJ F N hI hIs hI0 hIL hl9 hoff
      obtain ⟨P, nP, rfl, mP, mnl, mkl, hno⟩ := hJ
      obtain ⟨x, hx, rfl⟩ : ∃ x, (ordOf true xs)[i]? = some x ∧ v = .ref x := by
        rw [show (List.map Value.ref xs).toArray.toList.reverse = (xs.reverse).map Value.ref from (List.map_reverse ..).symm, List.getElem?_map] at hv
        obtain ⟨x, hx, e⟩ := Option.map_eq_some_iff.mp hv
        exact ⟨x, hx, e.symm⟩
      have hilt : i < xs.length := by
        rcases Nat.lt_or_ge i xs.length with q | q
        · exact q
        · rw [List.getElem?_eq_none (by rw [ordOf_length]; exact q)] at hx; cases hx
      have hlen : (putOf true xs i).length ≤ 10 := by rw [putOf_length]; omega
      have hnx := putOf_next hx
      obtain ⟨Cx, dx, gx⟩ := hgo x (List.mem_reverse.mp (List.mem_of_getElem? hx))
      have NI : News g L' h ((I, oI) :: (_, _) :: news₁) := fun p hp => by
        rcases List.mem_cons.mp hp with rfl | hp
        · exact ⟨hI, hIL, hI0⟩
        rcases List.mem_cons.mp hp with rfl | hp
        · exact ⟨hl9, (N1 _ (.head _)).2⟩
        · exact N p hp
      clear F1 N1
      by_cases hT : vt = .ref x
      · subst hT
        clear NI
        k_steps
        rename Fr _ _ _ _ => F2
        refine MEnd2.brk F2 (fun y h1 h2 => by simp only [h1, h2, if_false]) N (fun v' F9 => ?_) rfl
        have N9 := N
        obtain ⟨ii, hii⟩ : ∃ ii, ii = i := ⟨_, rfl⟩
        subst hii
        have hile : ii ≤ xs.length := Nat.le_of_lt hilt
        have hbad : ii < xs.length → ∃ y, (ordOf true xs)[ii]? = some y ∧ Value.ref x = .ref y := fun _ => ⟨x, hx, rfl⟩
        clear F2 N
        k_steps
        rename Fr _ _ _ _ => F10
        rename News _ _ _ _ => N10
        rename_i D1 h1 e1 D0 hh0 e0
        have gnl := (N10 _ (.tail _ (.tail _ (.tail _ (.tail _ (.tail _ mnl)))))).1
        have gkl := (N10 _ (.tail _ (.tail _ (.tail _ (.tail _ (.tail _ mkl)))))).1
        have lt1 := allLt_mem e1.2.2.2
        have lt0 := allLt_mem e0.2.2.2.2
        refine ret D0 D1 ii 0 _ _ hile hno hbad (fresh_of HG (N10 _ (.head _)).2.2 fun hm => ?_) (fresh_of HG (N10 _ (.tail _ (.head _))).2.2 fun hm => ?_) (ext_nil (ext_of HG F10) (fun p hp => ?_) (fun p hp => ?_)) ?_ ?_
        · simp only [List.map_cons, List.map_nil, List.mem_cons, List.not_mem_nil, or_false] at hm
          rcases hm with e | e
          · exact absurd (lt0 _ mnl) (by rw [e]; exact Nat.lt_irrefl _)
          · exact absurd (lt0 _ mkl) (by rw [e]; exact Nat.lt_irrefl _)
        · simp only [List.map_cons, List.map_nil, List.mem_cons, List.not_mem_nil, or_false] at hm
          rcases hm with e | e
          · exact absurd (lt1 _ mnl) (by rw [e]; exact Nat.lt_irrefl _)
          · exact absurd (lt1 _ mkl) (by rw [e]; exact Nat.lt_irrefl _)
        · simp only [List.mem_cons, List.not_mem_nil, or_false] at hp
          rcases hp with rfl | rfl
          · exact hl
          · exact hc
        · simp only [List.mem_cons, List.not_mem_nil, or_false] at hp
          rcases hp with rfl | rfl
          · exact gnl
          · exact gkl
        · have z := (N10 _ (.head _)).1
          rw [intBeq, putOf_length, Nat.min_eq_left hile] at z
          exact z
        · have z := (N10 _ (.tail _ (.head _))).1
          rw [show ((k : Int) + 1).toNat = k + 1 by omega] at z
          rw [csAt_put]
          exact z
      · have hno' : ∀ j, j < i + 1 → ∀ x, (ordOf true xs)[j]? = some x → vt ≠ .ref x := fun j hj y hy => by
          rcases Nat.lt_succ_iff_lt_or_eq.mp hj with q | rfl
          · exact hno j q y hy
          · rw [hx] at hy; cases hy; exact hT
        clear N
        rcases hvt with rfl | ⟨T, hTm, rfl⟩
        · k_steps
          rename Fr _ _ _ _ => F2
          rename News _ _ _ _ => N2
          rename_i D0 ha FF NN e0 hst
          rw [show x :: putOf true xs i = putOf true xs (i + 1) from hnx.symm] at N2
          refine MEnd2.go (news' := (D0, _) :: news₁) F2 (fun y h1 h2 => by simp only [h1, h2, if_false]) (fun p hp => N2 p ?_) (N2 _ (.tail _ (.tail _ (.head _)))).1 (N2 _ (.tail _ (.tail _ (.tail _ (.head _))))).1 (fun p hp => ?_) ⟨_, 0, rfl, .head _, .tail _ mnl, .tail _ mkl, hno'⟩ rfl
          · rcases List.mem_cons.mp hp with rfl | hp
            · exact .head _
            · exact .tail _ (.tail _ (.tail _ (.tail _ hp)))
          · rcases List.mem_cons.mp hp with rfl | hp
            · exact (Nat.ne_of_lt e0.2.1).symm
            · exact hoff p hp
        · have hne : @Ne Nat x T := fun e => hT (congrArg Value.ref e.symm)
          obtain ⟨CT, dT, gT⟩ := hgo T hTm
          k_steps
          rename Fr _ _ _ _ => F2
          rename News _ _ _ _ => N2
          rename_i D0 ha FF NN e0 hst
          rw [show x :: putOf true xs i = putOf true xs (i + 1) from hnx.symm] at N2
          refine MEnd2.go (news' := (D0, _) :: news₁) F2 (fun y h1 h2 => by simp only [h1, h2, if_false]) (fun p hp => N2 p ?_) (N2 _ (.tail _ (.tail _ (.head _)))).1 (N2 _ (.tail _ (.tail _ (.tail _ (.head _))))).1 (fun p hp => ?_) ⟨_, 0, rfl, .head _, .tail _ mnl, .tail _ mkl, hno'⟩ rfl
          · rcases List.mem_cons.mp hp with rfl | hp
            · exact .head _
            · exact .tail _ (.tail _ (.tail _ (.tail _ hp)))
          · rcases List.mem_cons.mp hp with rfl | hp
            · exact (Nat.ne_of_lt e0.2.1).symm
            · exact hoff p hp
    · intro aa bb news₁ h tk hJ F N
      rw [List.length_reverse, List.length_map] at hJ
      obtain ⟨P, nP, rfl, mP, mnl, mkl, hno⟩ := hJ
      obtain ⟨ii, hii⟩ : ∃ ii, ii = xs.length := ⟨_, rfl⟩
      rw [← hii] at mP hno
      have hile : ii ≤ xs.length := Nat.le_of_eq hii
      have hbad : ii < xs.length → ∃ y, (ordOf true xs)[ii]? = some y ∧ vt = .ref y := fun h => absurd h (by rw [hii]; exact Nat.lt_irrefl _)
      have hlen : (putOf true xs ii).length ≤ 10 := by rw [putOf_length]; omega
      clear F1 N1
      k_steps
      rename Fr _ _ _ _ => F10
      rename News _ _ _ _ => N10
      rename_i D1 h1 e1 D0 hh0 e0
      have gnl := (N10 _ (.tail _ (.tail _ (.tail _ (.tail _ (.tail _ mnl)))))).1
      have gkl := (N10 _ (.tail _ (.tail _ (.tail _ (.tail _ (.tail _ mkl)))))).1
      have lt1 := allLt_mem e1.2.2.2
      have lt0 := allLt_mem e0.2.2.2.2
      refine ret D0 D1 ii 0 _ _ hile hno hbad (fresh_of HG (N10 _ (.head _)).2.2 fun hm => ?_) (fresh_of HG (N10 _ (.tail _ (.head _))).2.2 fun hm => ?_) (ext_nil (ext_of HG F10) (fun p hp => ?_) (fun p hp => ?_)) ?_ ?_
      · simp only [List.map_cons, List.map_nil, List.mem_cons, List.not_mem_nil, or_false] at hm
        rcases hm with e | e
        · exact absurd (lt0 _ mnl) (by rw [e]; exact Nat.lt_irrefl _)
        · exact absurd (lt0 _ mkl) (by rw [e]; exact Nat.lt_irrefl _)
      · simp only [List.map_cons, List.map_nil, List.mem_cons, List.not_mem_nil, or_false] at hm
        rcases hm with e | e
        · exact absurd (lt1 _ mnl) (by rw [e]; exact Nat.lt_irrefl _)
        · exact absurd (lt1 _ mkl) (by rw [e]; exact Nat.lt_irrefl _)
      · simp only [List.mem_cons, List.not_mem_nil, or_false] at hp
        rcases hp with rfl | rfl
        · exact hl
        · exact hc
      · simp only [List.mem_cons, List.not_mem_nil, or_false] at hp
        rcases hp with rfl | rfl
        · exact gnl
        · exact gkl
      · have z := (N10 _ (.head _)).1
        rw [intBeq, putOf_length, Nat.min_eq_left hile] at z
        exact z
      · have z := (N10 _ (.tail _ (.head _))).1
        rw [show ((k : Int) + 1).toNat = k + 1 by omega] at z
        rw [csAt_put]
        exact z
end
end TX_Due2
-- Same
section TX_Same
section
variable {prog : Program} {w : World} {A : Around} {E : Value → Shared → Prop} {s : Shared} {h₀ : Heap} {env : Env} {target : Expr} {body : List Stmt} {Q : Flow → Shared → Prop} {ws : List (Addr × String)} {keep : List (Addr × Obj)}
theorem items_ind {P : Itm → Prop} (J : (Str → Option Value) → List (Addr × Obj) → Prop) (fin : ∀ m news, J m news → ItemsRest prog w A E h₀ env target body Q s ws keep [] m news)
    (step : ∀ it r m news, P it → J m news → (∀ m' news', J m' news' → ItemsRest prog w A E h₀ env target body Q s ws keep r m' news') → ItemsRest prog w A E h₀ env target body Q s ws keep (it :: r) m news) :
    ∀ zs, (∀ it ∈ zs, P it) → ∀ m news, J m news → ItemsRest prog w A E h₀ env target body Q s ws keep zs m news := by
  intro zs
  induction zs with
  | nil => intro _ m news hJ; exact fin m news hJ
  | cons it r ih => intro hz m news hJ; exact step it r m news (hz it (.head _)) hJ (ih fun q hq => hz q (.tail _ hq))
end
theorem zip_self : ∀ (xs : List Addr), ∀ it ∈ zipItems (xs.map Value.ref) (xs.map Value.ref), ∃ x, it = .pair (fun _ => Value.ref x) (.ref x)
  | [], _, h => by simp [zipItems] at h
  | x :: r, it, h => by
    simp only [List.map_cons, zipItems] at h
    rcases List.mem_cons.mp h with rfl | h
    · exact ⟨x, rfl⟩
    · exact zip_self r it h
section
variable {w : World} {A₀ : Around} {s : Shared} {L a : Addr} {h₀ base : Heap} {m mg mb : Str → Option Value} {mean : ExcName → Option Value} {loose : List Str}
  {dp un : Nat} {gd : Option (List Code)} {cn : Str} {cs : Scope} {ccd : Value} {cl : List (Str × Addr)} {outer : List Env} {E : Value → Shared → Prop}
local macro_rules | `(tactic| wtm_at "call type:zip") => `(tactic| (k_here; refine Stop.mk ?_))
local macro_rules | `(tactic| wtm_at "exec For Tuple Call cons nil") => `(tactic| (k_here; (rename Fr _ _ _ _ => lF'); (with_unfolding_all refine' For_turns lF' ?_; k_whole)))
local macro_rules | `(tactic| wtm_at "call builtin:len") => `(tactic| (k_here; (with_reducible show wpAny _ _ (call (Value.builtin "len") [Value.ref _]) _ _ _); k_dflt (refine' len_refs ?k1 ?k2 ?_; (case k1 => kmk_list); (case k2 => ((try simp only [List.length_take, List.length_drop, List.length_append, List.length_cons, List.length_nil, List.length_reverse]); omega)); k_whole)))
set_option maxHeartbeats 4000000 in
theorem same_spec {Q : Value → Shared → Prop} {la lb : Addr} {xs : List Addr} {n n2 : Nat}
  (B : Below A₀ base outer h₀) (F : Fr h₀ L s.heap m) (X : (Mine.hd.heap_39 w.params).In h₀) (T : Top Mine.hd.view_39 loose mean mg mb h₀) (hk : cs.kind = .function)
  (hl : s.heap.get? la = some (listOf (xs.map Value.ref).toArray n)) (hl0 : h₀.get? la = none) (hlL : la ≠ L) (hxs : xs.length ≤ 40)
  (hc : s.heap.get? lb = some (listOf (xs.map Value.ref).toArray n2)) (hc0 : h₀.get? lb = none) (hcL : lb ≠ L)
  (hdp : dp + 40 < recursionLimit) (hun : un + 400 < cLine)
  (ret : ∀ h' tk', Ext [] s.heap h' → Q (.bool true) {s with heap := h', toks := tk'})
  : wpAny (model pw w) (ktrTop dp un gd cn cs L a ccd cl outer) (call (.ref 355) [.ref la, .ref lb]) Q E s := by
  refine wpAny_call ?_
  have N : News h₀ L s.heap [(la, listOf (xs.map Value.ref).toArray n), (lb, listOf (xs.map Value.ref).toArray n2)] := fun p hp => by
    rcases List.mem_cons.mp hp with rfl | hp
    · exact ⟨hl, hlL, hl0⟩
    · rw [List.mem_singleton.mp hp]; exact ⟨hc, hcL, hc0⟩
  have Ns : ∀ p ∈ ([(la, listOf (xs.map Value.ref).toArray n), (lb, listOf (xs.map Value.ref).toArray n2)] : List (Addr × Obj)), s.heap.get? p.1 = some p.2 := fun p hp => (N p hp).1
  k_dflt wtm_at "mine enter"
  intro g L' h' F' N' B' X' T' l1 HG hL'
  clear F X T B N
  (try dsimp only)
  (try k_fold)
  k_steps
  · exfalso
    omega
  unfold Stop
  rename Fr _ _ _ _ => F1
  rename News _ _ _ _ => N1
  refine ktu_zip (xs := xs.map Value.ref) (ys := xs.map Value.ref) (by rfl) F1 N1 (.head _) (by rfl) (by rfl) (.tail _ (.head _)) (by rfl) (by rfl) fun I hI => ?_
  clear F1
  refine items_ind (P := fun it => ∃ x, it = .pair (fun _ => Value.ref x) (.ref x)) (fun _ news => news = [(la, listOf (xs.map Value.ref).toArray n), (lb, listOf (xs.map Value.ref).toArray n2)]) ?_ ?_ _ (zip_self xs) _ _ rfl
  · rintro m₂ news rfl
    refine ItemsRest.zero fun h tk F N => ?_
    clear N1
    k_steps
    rename Fr _ _ _ _ => F9
    rename News _ _ _ _ => N9
    exact ret _ _ (ext_nil (ext_of HG F9) Ns fun p hp => (N9 p hp).1)
  · rintro it r m₂ news ⟨x, rfl⟩ rfl ih
    clear N1
    refine ItemsRest.pair fun T' t' h2 tk2 hT' F' => ?_
    try dsimp only at hT'
    ktu_objs
    k_steps
    exact ih _ _ rfl
end
end TX_Same
-- Str1
section TX_Str1
/-- what str(x) gives, wherever it is asked -/
def StrOk (w : World) (mg mb : Str → Option Value) (mean : ExcName → Option Value) (loose : List Str) (led : List (Addr × Obj)) (x : Addr) (t : Str) (D U : Nat) : Prop :=
  ∀ (A₀ : Around) (s : Shared) (L a : Addr) (h₀ base : Heap) (m : Str → Option Value) (dp un : Nat) (gd : Option (List Code)) (cn : Str) (cs : Scope) (ccd : Value) (cl : List (Str × Addr)) (outer : List Env) (Q E : Value → Shared → Prop),
    Below A₀ base outer h₀ → Fr h₀ L s.heap m → (Mine.hd.heap_39 w.params).In h₀ → Top Mine.hd.view_39 loose mean mg mb h₀ → cs.kind = .function → News h₀ L s.heap led → dp + D < recursionLimit → un + U < cLine →
    (∀ h' tk tk', Ext [] s.heap h' → Q (.str t tk) {s with heap := h', toks := tk'}) →
    wpAny (model pw w) (ktrTop dp un gd cn cs L a ccd cl outer) (call (.type "str") [.ref x]) Q E s
theorem ext_raw {news : List (Addr × Obj)} {h₀ h h' : Heap} {L : Addr} (x : Ext (news.map (·.1)) h h') (N : News h₀ L h news) (N' : ∀ p ∈ news, h'.get? p.1 = some p.2) : Ext [] h h' := ext_nil x (fun p hp => (N p hp).1) N'
section
variable {w : World} {A₀ : Around} {s : Shared} {L a : Addr} {h₀ base : Heap} {m mg mb : Str → Option Value} {mean : ExcName → Option Value} {loose : List Str}
  {dp un : Nat} {gd : Option (List Code)} {cn : Str} {cs : Scope} {ccd : Value} {cl : List (Str × Addr)} {outer : List Env} {E : Value → Shared → Prop}
local macro_rules | `(tactic| wtm_at "binaryOp Add str str") => `(tactic| (k_here; refine PyProof.Rows.add_str (fun t' tk => ?_) (by rw [sizeLine_eq]; omega)))
set_option maxHeartbeats 4000000 in
theorem leaf_str0 {Q : Value → Shared → Prop} {x d : Addr} {es : List DictEntry} {n : Nat} {t : Str}
  (B : Below A₀ base outer h₀) (F : Fr h₀ L s.heap m) (X : (Mine.hd.heap_39 w.params).In h₀) (T : Top Mine.hd.view_39 loose mean mg mb h₀) (hk : cs.kind = .function)
  (N : News h₀ L s.heap [(x, instObj 327 d), (d, dictOf es n)]) (tx : LfText es t) (hlen : es.length ≤ 60) (ht : t.length ≤ 60)
  (hdp : dp + 10 < recursionLimit) (hun : un + 100 < cLine)
  (ret : ∀ h' tk tk', Ext [] s.heap h' → Q (.str t tk) {s with heap := h', toks := tk'})
  : wpAny (model pw w) (ktrTop dp un gd cn cs L a ccd cl outer) (call (.ref 272) [.ref x]) Q E s := by
  obtain ⟨p, v, tp, tv, ep, ev, rfl⟩ := tx
  refine wpAny_call ?_
  have Ns : ∀ p ∈ ([(x, instObj 327 d), (d, dictOf es n)] : List (Addr × Obj)), s.heap.get? p.1 = some p.2 := fun p hp => (N p hp).1
  k_dflt wtm_at "mine enter"
  intro g L' h' F' N' B' X' T' l1 HG hL'
  clear F X T B N
  (try dsimp only)
  (try k_fold)
  have hpv : p.length + v.length ≤ 60 := by rw [← len_cat]; exact ht
  k_steps
  rename Fr _ _ _ _ => F9
  rename News _ _ _ _ => N9
  exact ret _ _ _ (ext_nil (ext_of HG F9) Ns fun p hp => (N9 p hp).1)
theorem leaf_str {x d : Addr} {es : List DictEntry} {n : Nat} {t : Str} (tx : LfText es t) (hlen : es.length ≤ 60) (ht : t.length ≤ 60) : StrOk w mg mb mean loose [(x, instObj 327 d), (d, dictOf es n)] x t 20 200 := by
  intro A₀ s L a h₀ base m dp un gd cn cs ccd cl outer Q E B F X T hk N hdp hun ret
  k_dflt (refine' kso_call ?k1 ?k2 ?k3 ?k4 ?k5 ?_; (case k1 => ktr_units); (case k2 => exact X.keeps F.keep); (case k3 => k_inst); (case k4 => k_is); (case k5 => k_is); k_whole)
  refine leaf_str0 B F X T hk N tx hlen ht (by ktr_room) (by ktr_units) fun h' tk tk' ex => ?_
  exact ret h' tk tk' ex
end
end TX_Str1
-- Str2
section TX_Str2
section
variable {w : World} {A₀ : Around} {s : Shared} {L a : Addr} {h₀ base : Heap} {m mg mb : Str → Option Value} {mean : ExcName → Option Value} {loose : List Str}
  {dp un : Nat} {gd : Option (List Code)} {cn : Str} {cs : Scope} {ccd : Value} {cl : List (Str × Addr)} {outer : List Env} {E : Value → Shared → Prop}
local macro_rules | `(tactic| wtm_at "eval ListComp") => `(tactic| (k_here; k_dflt (refine ListComp_V (F₀ := by k_asm) (by with_unfolding_all rfl) (by decide) (by rfl) (by decide) (by rfl) ?_)))
local macro_rules | `(tactic| wtm_at "call type:str") => `(tactic| (k_here; refine Stop.mk ?_))
local macro_rules | `(tactic| wtm_at "call builtin:str.join") => `(tactic| (k_here; k_dflt (refine PyProof.Rows.join_list (by kmk_list) (by with_reducible assumption) (by with_reducible assumption) (fun t' k => ?_))))
set_option maxHeartbeats 4000000 in
theorem node_str0 {Q : Value → Shared → Prop} {x d l : Addr} {es : List DictEntry} {n nl : Nat} {cs' : List Addr} {ts : List Str} {led : List (Addr × Obj)} {D U : Nat}
  (B : Below A₀ base outer h₀) (F : Fr h₀ L s.heap m) (X : (Mine.hd.heap_39 w.params).In h₀) (T : Top Mine.hd.view_39 loose mean mg mb h₀) (hk : cs.kind = .function)
  (N : News h₀ L s.heap led) (mo : (x, instObj 247 d) ∈ led) (md : (d, dictOf es n) ∈ led) (ml : (l, listOf (cs'.map Value.ref).toArray nl) ∈ led) (chd : getL "children" es = some (some (.ref l))) (hlen : es.length ≤ 60)
  (kids : ∀ (i : Nat) (c : Addr), cs'[i]? = some c → ∃ (t : Str) (ledc : List (Addr × Obj)), ts[i]? = some t ∧ (∀ p ∈ ledc, p ∈ led) ∧ StrOk w mg mb mean loose ledc c t D U) (hts : ts.length = cs'.length) (hsum : (ts.map (·.length)).sum ≤ 100000) (hcs : cs'.length ≤ 100)
  (hdp : dp + D + 10 < recursionLimit) (hun : un + U + 100 < cLine)
  (ret : ∀ h' tk tk', Ext [] s.heap h' → Q (.str (Txt.join "" ts) tk) {s with heap := h', toks := tk'})
  : wpAny (model pw w) (ktrTop dp un gd cn cs L a ccd cl outer) (call (.ref 178) [.ref x]) Q E s := by
  refine wpAny_call ?_
  have Ns : ∀ p ∈ led, s.heap.get? p.1 = some p.2 := fun p hp => (N p hp).1
  k_dflt wtm_at "mine enter"
  intro g L' h' F' N' B' X' T' l1 HG hL'
  clear F X T B N
  (try dsimp only)
  (try k_fold)
  k_steps
  rename Fr _ _ _ _ => F1
  rename News _ _ _ _ => N1
  have hn : (cs'.map Value.ref).toArray.size = cs'.length := by rw [List.size_toArray, List.length_map]
  refine LCg.CompSrc.ledger rfl F1 N1 ml (by rw [hn, sizeLine_eq]; omega) fun g' => ?_
  refine comp_ind (fun i ys news => news = led ∧ StrsAre ys (ts.take i)) _ ?_ ?_ _ 0 [] _ (Nat.zero_add _) ⟨rfl, .nil⟩
  · intro i ys news hi hI v I oI C oC Da m₂ h tk E' hP hC hx F N off ne
    obtain ⟨hI1, hys⟩ := hI
    subst hI1
    clear F1 N1
    obtain ⟨c, hc, rfl⟩ : ∃ c, cs'[i]? = some c ∧ v = .ref c := by
      have hP' : (cs'.map Value.ref)[i]? = some v := by simpa using hP
      rw [List.getElem?_map] at hP'
      obtain ⟨c, hc, e⟩ := Option.map_eq_some_iff.mp hP'
      exact ⟨c, hc, e.symm⟩
    obtain ⟨t, ledc, ht, hsub, sok⟩ := kids i c hc
    clear hP
    k_steps
    unfold Stop
    refine sok _ _ _ _ _ _ _ _ _ _ _ _ _ _ _ _ _ B' F X' T' rfl (fun p hp => N _ (.tail _ (.tail _ (.tail _ (hsub p hp))))) (by ktr_room) (by ktr_units) fun h2 tk2 tk3 ex => ?_
    refine turn_go (news' := news) (ex.fr F (fun h => nomatch h) (fun _ h => nomatch h)) (ex.news N (fun _ _ h => nomatch h)) (fun p hp => off.mem p hp) (.inr ⟨_, ml, rfl, _, rfl⟩) ⟨rfl, ?_⟩ rfl
    rw [List.take_add_one, ht]
    exact hys.append' (.cons _ _ .nil)
  · intro ys news hI
    obtain ⟨hI1, hys⟩ := hI
    subst hI1
    rw [hn, ← hts, List.take_length] at hys
    have hjoin : (ts.map (·.length)).sum + ts.length * (Str.ofString "").length ≤ 16777216 := by
      have h0 : (Str.ofString "").length = 0 := by decide +kernel
      rw [h0]; omega
    unfold LCg.FinE
    intro Dl h tk F N o1
    clear F1 N1
    k_steps
    rename Fr _ _ _ _ => F9
    rename News _ _ _ _ => N9
    exact ret _ _ _ (ext_nil (ext_of HG F9) Ns fun p hp => (N9 p (.tail _ hp)).1)
theorem node_str {x d l : Addr} {es : List DictEntry} {n nl : Nat} {cs' : List Addr} {ts : List Str} {led : List (Addr × Obj)} {D U : Nat}
  (mo : (x, instObj 247 d) ∈ led) (md : (d, dictOf es n) ∈ led) (ml : (l, listOf (cs'.map Value.ref).toArray nl) ∈ led) (chd : getL "children" es = some (some (.ref l))) (hlen : es.length ≤ 60)
  (kids : ∀ (i : Nat) (c : Addr), cs'[i]? = some c → ∃ (t : Str) (ledc : List (Addr × Obj)), ts[i]? = some t ∧ (∀ p ∈ ledc, p ∈ led) ∧ StrOk w mg mb mean loose ledc c t D U) (hts : ts.length = cs'.length) (hsum : (ts.map (·.length)).sum ≤ 100000) (hcs : cs'.length ≤ 100) :
  StrOk w mg mb mean loose led x (Txt.join "" ts) (D + 20) (U + 200) := by
  intro A₀ s L a h₀ base m dp un gd cn cs ccd cl outer Q E B F X T hk N hdp hun ret
  k_dflt (refine' kso_call ?k1 ?k2 ?k3 ?k4 ?k5 ?_; (case k1 => ktr_units); (case k2 => exact X.keeps F.keep); (case k3 => k_inst); (case k4 => k_is); (case k5 => k_is); k_whole)
  refine node_str0 B F X T hk N mo md ml chd hlen kids hts hsum hcs (by ktr_room) (by ktr_units) fun h' tk tk' ex => ?_
  exact ret h' tk tk' ex
end
end TX_Str2
-- Str3
section TX_Str3
section
variable {w : World} {mg mb : Str → Option Value} {mean : ExcName → Option Value} {loose : List Str}
theorem StrOk.mono {led led' : List (Addr × Obj)} {x : Addr} {t : Str} {D U D' U' : Nat} (o : StrOk w mg mb mean loose led x t D U) (h : ∀ p ∈ led, p ∈ led') (hD : D ≤ D') (hU : U ≤ U') : StrOk w mg mb mean loose led' x t D' U' :=
  fun A₀ s L a h₀ base m dp un gd cn cs ccd cl outer Q E B F X T hk N hdp hun ret => o A₀ s L a h₀ base m dp un gd cn cs ccd cl outer Q E B F X T hk (fun p hp => N p (h p hp)) (by omega) (by omega) ret
theorem join_len (ts : List Str) (B : Nat) (h : ∀ t ∈ ts, t.length ≤ B) : (Txt.join "" ts).length ≤ ts.length * B := by
  have h0 : (Str.ofString "").length = 0 := by decide +kernel
  show (Builtin.Str.glued (Str.ofString "") ts).length ≤ _
  rw [StrLaws.glued_eq_join]
  refine Nat.le_trans (StrLaws.join_length_le _ ts) ?_
  rw [h0, Nat.mul_zero, Nat.add_zero]
  induction ts with
  | nil => exact Nat.zero_le _
  | cons a r ih =>
    have h1 := h a (.head _)
    have h2 := ih fun t ht => h t (.tail _ ht)
    simp only [List.map_cons, List.sum_cons, List.length_cons, Nat.succ_mul]
    omega
theorem sum_le (ts : List Str) (B : Nat) (h : ∀ t ∈ ts, t.length ≤ B) : (ts.map (·.length)).sum ≤ ts.length * B := by
  induction ts with
  | nil => exact Nat.zero_le _
  | cons a r ih =>
    have h1 := h a (.head _)
    have h2 := ih fun t ht => h t (.tail _ ht)
    simp only [List.map_cons, List.sum_cons, List.length_cons, Nat.succ_mul]
    omega
theorem small_len {G : Where} {sm : Sm} {par : Option Value} (o : SmOk G sm par) : sm.txt.length ≤ 120 := by
  obtain ⟨es, n, _, _, _, _, _, i⟩ := o.ex
  rcases i with ⟨_, _, sz⟩ | ⟨_, l, nl, lfs, _, _, _, _, _, h2, hl, e⟩
  · omega
  · rw [e]
    refine Nat.le_trans (join_len _ 60 fun t ht => ?_) ?_
    · obtain ⟨lf, h, rfl⟩ := List.mem_map.mp ht
      exact (hl lf h).sz
    · rw [List.length_map]; omega
theorem small_str {led : List (Addr × Obj)} {sm : Sm} {par : Option Value} (o : SmOk (Gl led) sm par) : StrOk w mg mb mean loose led sm.x sm.txt 60 600 := by
  obtain ⟨es, n, io, id, _, _, hlen, i⟩ := o.ex
  have hp : par.toList.length ≤ 1 := by cases par <;> simp
  rcases i with ⟨hC, tx, sz⟩ | ⟨hC, l, nl, lfs, chd, hl, _, _, _, h2, hlf, e⟩
  · rw [hC] at io
    exact (leaf_str tx (by omega) sz).mono (led := [(sm.x, instObj 327 sm.d), (sm.d, dictOf es n)]) (fun p hp => by
      rcases List.mem_cons.mp hp with rfl | hp
      · exact io
      · rw [List.mem_singleton.mp hp]; exact id) (by omega) (by omega)
  · rw [hC] at io
    rw [e]
    have hl' : (l, listOf ((lfs.map fun k : Lf => k.x).map Value.ref).toArray nl) ∈ led := by rw [List.map_map]; exact hl
    refine (node_str (D := 20) (U := 200) (cs' := lfs.map fun k : Lf => k.x) (ts := lfs.map fun k : Lf => k.t) io id hl' chd (by omega) (fun i c hc => ?_) (by rw [List.length_map, List.length_map]) (Nat.le_trans (sum_le _ 60 fun t ht => ?_) (by rw [List.length_map]; omega)) (by rw [List.length_map]; omega)).mono (fun p hp => hp) (by omega) (by omega)
    · rw [List.getElem?_map] at hc
      obtain ⟨lf, hc2, rfl⟩ := Option.map_eq_some_iff.mp hc
      have hm := hlf lf (List.mem_of_getElem? hc2)
      refine ⟨lf.t, [(lf.x, instObj 327 lf.d), (lf.d, dictOf lf.es lf.n)], by rw [List.getElem?_map, hc2]; rfl, fun p hp => ?_, leaf_str hm.tx (Nat.le_trans hm.ln (by omega)) hm.sz⟩
      rcases List.mem_cons.mp hp with rfl | hp
      · exact hm.ob
      · rw [List.mem_singleton.mp hp]; exact hm.dc
    · obtain ⟨lf, h, rfl⟩ := List.mem_map.mp ht
      exact (hlf lf h).sz
theorem top_str {led : List (Addr × Obj)} {t : Mid} {sms : List Sm} {wc : Option Value} {b : Nat} {rst : Sm} {par : Option Value} (mo : MidOk (Gl led) t (sms.map Sm.x) wc b) (hb : b ≤ 60) (hs : ∀ sm ∈ sms, ∃ par, SmOk (Gl led) sm par) (hr : SmOk (Gl led) rst par) (hx : rst.x = t.rest) (hn : sms.length ≤ 50) :
    StrOk w mg mb mean loose led t.at_ (Txt.join "" [rst.txt, Txt.join "" (sms.map Sm.txt)]) 120 1200 := by
  obtain ⟨⟨mes, n, pes, n', nl, nt, m1, m2, m3, m4, m5, m6, m7, m8, m9, m10, m11, m12, m13, m14, m15, m16, m17⟩, _, _⟩ := mo
  have lens : ∀ t ∈ sms.map Sm.txt, t.length ≤ 120 := fun t ht => by
    obtain ⟨sm, h, rfl⟩ := List.mem_map.mp ht
    obtain ⟨p, o⟩ := hs sm h
    exact small_len o
  have md : StrOk w mg mb mean loose led t.am (Txt.join "" (sms.map Sm.txt)) 80 800 := by
    refine node_str (D := 60) (U := 600) (cs' := sms.map Sm.x) m1 m2 m3 m9 (Nat.le_trans m7 hb) (fun i c hc => ?_) (by rw [List.length_map, List.length_map]) (Nat.le_trans (sum_le _ 120 lens) (by rw [List.length_map]; omega)) (by rw [List.length_map]; omega)
    rw [List.getElem?_map] at hc
    obtain ⟨sm, hc2, rfl⟩ := Option.map_eq_some_iff.mp hc
    obtain ⟨p, o⟩ := hs sm (List.mem_of_getElem? hc2)
    exact ⟨sm.txt, led, by rw [List.getElem?_map, hc2]; rfl, fun p hp => hp, small_str o⟩
  have lj := join_len _ 120 lens
  rw [List.length_map] at lj
  have lr := small_len hr
  refine (node_str (D := 80) (U := 800) (cs' := [t.rest, t.am]) (ts := [rst.txt, Txt.join "" (sms.map Sm.txt)]) m4 m5 m6 m14 (Nat.le_trans m8 hb) (fun i c hc => ?_) rfl (by simp only [List.map_cons, List.map_nil, List.sum_cons, List.sum_nil]; omega) (by simp)).mono (fun p hp => hp) (by omega) (by omega)
  match i, hc with
  | 0, hc =>
    have e : t.rest = c := by simpa using hc
    exact ⟨rst.txt, led, rfl, fun p hp => hp, by rw [← e, ← hx]; exact (small_str hr).mono (fun p hp => hp) (by omega) (by omega)⟩
  | 1, hc =>
    have e : t.am = c := by simpa using hc
    exact ⟨_, led, rfl, fun p hp => hp, by rw [← e]; exact md⟩
  | i + 2, hc => simp at hc
theorem join_two (a b c : Str) (h : a = Str.ofString "" ++ c) : Txt.join "" [a, b] = c ++ b := by
  subst h
  show Builtin.Str.glued (Str.ofString "") _ = _
  rw [StrLaws.glued_eq_join]
  show (Str.ofString "" ++ c) ++ Str.ofString "" ++ b = c ++ b
  have z : Str.ofString "" = Str.empty := rfl
  have e : ∀ x : Str, Str.ofString "" ++ x = x := fun x => by rw [z]; exact Str.empty_append x
  have e2 : ∀ x : Str, x ++ Str.ofString "" = x := fun x => by rw [z]; exact Str.append_empty x
  rw [e, e2]
theorem join_one (a : Str) : Txt.join "" [a] = a := by
  show Builtin.Str.glued (Str.ofString "") _ = _
  rw [StrLaws.glued_eq_join]
  rfl
end
section
variable {w : World} {A₀ : Around} {s : Shared} {L a : Addr} {h₀ base : Heap} {m mg mb : Str → Option Value} {mean : ExcName → Option Value} {loose : List Str}
  {dp un : Nat} {gd : Option (List Code)} {cn : Str} {cs : Scope} {ccd : Value} {cl : List (Str × Addr)} {outer : List Env} {E : Value → Shared → Prop}
end
end TX_Str3
-- Put
section TX_Put
theorem scene_keeps {b : Bool} {t : Mid} {tgt : Sm} {k i : Nat} {cs : List Addr} {goods : List Sm} {news news₁ : List (Addr × Obj)} (St : Stage t tgt k cs goods news) (Sc : Scene b t k cs goods news news₁ i)
    {q : Sm} {par : Option Value} (hr : ∀ r ∈ goods.take i, Disj r q) (ap : Apart q t) (o : SmOk (Gl news) q par) : SmOk (Gl news₁) q par := o.keeps fun c ob h1 h2 hc => Sc.keep (c, ob) hc fun hm => by
  rcases List.mem_append.mp hm with hm | hm
  · obtain ⟨r, hr', e⟩ := List.mem_map.mp hm
    have rr := (St.gok r (List.mem_of_mem_take hr')).rd
    exact (hr r hr').ne rr.1 rr.2 h1 h2 e
  · simp only [List.mem_cons, List.not_mem_nil, or_false] at hm
    rcases hm with e | e | e
    · exact ap.dm.ne h1 h2 e
    · exact ap.lm.ne h1 h2 e
    · exact ap.dt.ne h1 h2 e
/-- a ledger entry that is no dict of a good, and none of the middle's, stands -/
theorem scene_stays {b : Bool} {t : Mid} {tgt : Sm} {k i : Nat} {cs : List Addr} {goods : List Sm} {news news₁ : List (Addr × Obj)} (St : Stage t tgt k cs goods news) (Sc : Scene b t k cs goods news news₁ i)
    {p : Addr × Obj} (hp : p ∈ news) (hd : ∀ es n, p.2 ≠ dictOf es n) (hl : p.1 ≠ t.lm) : p ∈ news₁ := Sc.keep p hp fun hm => by
  obtain ⟨pa, po⟩ := p
  rcases List.mem_append.mp hm with hm | hm
  · obtain ⟨r, hr, e⟩ := List.mem_map.mp hm
    obtain ⟨_, _, _, rd, _⟩ := (St.gok r (List.mem_of_mem_take hr)).ex
    have e' : r.d = pa := e
    rw [e'] at rd
    exact hd _ _ (St.fn _ _ _ hp rd)
  · obtain ⟨⟨_, _, _, _, _, _, _, i2, i3, _, i5, _⟩, _⟩ := St.mid
    simp only [List.mem_cons, List.not_mem_nil, or_false] at hm
    rcases hm with e | e | e
    · have e' : pa = t.dm := e
      rw [e'] at hp; exact hd _ _ (St.fn _ _ _ hp i2)
    · exact hl e
    · have e' : pa = t.dt := e
      rw [e'] at hp; exact hd _ _ (St.fn _ _ _ hp i5)
/-- the thing that stops the turns: another tree has it -/
structure BadOk (t : Mid) (goods : List Sm) (bd : Sm) (news : List (Addr × Obj)) (P : Addr) : Prop where
  ok : SmOk (Gl news) bd (some (.ref P))
  dj : ∀ r ∈ goods, Disj r bd
  ap : Apart bd t
section
variable {w : World} {mg mb : Str → Option Value} {mean : ExcName → Option Value} {loose : List Str}
theorem turn_good {b : Bool} {t : Mid} {tgt sm : Sm} {k i : Nat} {cs : List Addr} {goods : List Sm} {news : List (Addr × Obj)} (St : Stage t tgt k cs goods news) (hsm : goods[i]? = some sm) :
    TurnGood w mg mb mean loose b tgt.x sm.x (Scene b t k cs goods news · i) (Scene b t k cs goods news · (i + 1)) :=
  fun A₀ s L a h₀ base m dp un gd cn cs' ccd cl outer Q E news₁ B F X T hk N Sc hdp hun ret => turn_ok B F X T hk N St Sc hsm hdp hun fun news₂ h' tk' F' N' Sc' ex _ => ret news₂ h' tk' F' N' Sc' ex
theorem turn_bad {b : Bool} {t : Mid} {tgt bd : Sm} {k : Nat} {cs : List Addr} {goods : List Sm} {news : List (Addr × Obj)} {P : Addr} (St : Stage t tgt k cs goods news) (Bd : BadOk t goods bd news P) :
    TurnBad w mg mb mean loose b tgt.x bd.x (Scene b t k cs goods news · goods.length) := by
  intro A₀ s L a h₀ base m dp un gd cn cs' ccd cl outer Q E news₁ B F X T hk N Sc hdp hun exc
  have mt' : tgt ∈ goods ++ [tgt] := List.mem_append_right _ (List.mem_singleton.mpr rfl)
  have ob := scene_keeps St Sc (fun r hr => Bd.dj r (List.mem_of_mem_take hr)) Bd.ap Bd.ok
  have ot := scene_keeps St Sc (fun r hr => (List.pairwise_append.mp St.disj).2.2 r (List.mem_of_mem_take hr) tgt (List.mem_singleton.mpr rfl)) (St.ap tgt mt') St.tok
  obtain ⟨es, n1, g1, g2, g3, _⟩ := ob.ex
  obtain ⟨tes, n2, t1, t2, t3, _⟩ := ot.ex
  refine insertAt_raise B F X T hk ⟨(N _ g1).1, (N _ g2).1⟩ ob.cls ⟨(N _ t1).1, (N _ t2).1⟩ ot.cls (fun c hc => ?_) (.inl ⟨P, g3⟩) (by omega) (by omega) exc
  simp only [List.mem_cons, List.not_mem_nil, or_false] at hc
  rcases hc with rfl | rfl | rfl | rfl
  · exact ⟨(N _ g1).2.2, (N _ g1).2.1⟩
  · exact ⟨(N _ g2).2.2, (N _ g2).2.1⟩
  · exact ⟨(N _ t1).2.2, (N _ t1).2.1⟩
  · exact ⟨(N _ t2).2.2, (N _ t2).2.1⟩
/-- the place is the top: no parent -/
theorem turn_top {b : Bool} {t : Mid} {sm : Sm} {cs : List Addr} {wc : Option Value} {bb : Nat} {news : List (Addr × Obj)} (M : MidOk (Gl news) t cs wc bb) (ok : SmOk (Gl news) sm none) :
    TurnBad w mg mb mean loose b t.at_ sm.x (fun news₁ => news₁ = news) := by
  intro A₀ s L a h₀ base m dp un gd cn cs' ccd cl outer Q E news₁ B F X T hk N e hdp hun exc
  subst e
  obtain ⟨es, n1, g1, g2, g3, _⟩ := ok.ex
  obtain ⟨⟨_, _, _, _, _, _, _, _, _, m4, m5, _, _, _, _, _, _, _, _, _, _, m16, _⟩, _⟩ := M
  refine insertAt_raise B F X T hk ⟨(N _ g1).1, (N _ g2).1⟩ ok.cls ⟨(N _ m4).1, (N _ m5).1⟩ (.inl rfl) (fun c hc => ?_) (.inr ⟨g3, m16⟩) (by omega) (by omega) exc
  simp only [List.mem_cons, List.not_mem_nil, or_false] at hc
  rcases hc with rfl | rfl | rfl | rfl
  · exact ⟨(N _ g1).2.2, (N _ g1).2.1⟩
  · exact ⟨(N _ g2).2.2, (N _ g2).2.1⟩
  · exact ⟨(N _ m4).2.2, (N _ m4).2.1⟩
  · exact ⟨(N _ m5).2.2, (N _ m5).2.1⟩
/-- its parent does not know the place -/
theorem turn_lost {b : Bool} {t : Mid} {tgt sm : Sm} {cs : List Addr} {wc : Option Value} {bb : Nat} {news : List (Addr × Obj)} (M : MidOk (Gl news) t cs wc bb) (ok : SmOk (Gl news) sm none) (tok : SmOk (Gl news) tgt (some (.ref t.am)))
    (kids : ∀ c ∈ cs, ∃ C d, (c, instObj C d) ∈ news) (hno : tgt.x ∉ cs) : TurnBad w mg mb mean loose b tgt.x sm.x (fun news₁ => news₁ = news) := by
  intro A₀ s L a h₀ base m dp un gd cn cs' ccd cl outer Q E news₁ B F X T hk N e hdp hun exc
  subst e
  obtain ⟨es, n1, g1, g2, g3, _⟩ := ok.ex
  obtain ⟨tes, n2, t1, t2, t3, _⟩ := tok.ex
  obtain ⟨⟨_, _, _, _, _, _, m1, m2, m3, _, _, _, _, _, m9, _⟩, _⟩ := M
  refine insertAt_lost B F X T hk ⟨(N _ g1).1, (N _ g2).1⟩ ok.cls ⟨(N _ t1).1, (N _ t2).1⟩ tok.cls ⟨(N _ m1).1, (N _ m2).1⟩ (N _ m3).1 (fun c hc => ?_) g3 t3 m9 (fun c hc => ?_) hno (by omega) (by omega) exc
  · simp only [List.mem_cons, List.not_mem_nil, or_false] at hc
    rcases hc with rfl | rfl | rfl | rfl | rfl | rfl | rfl
    · exact ⟨(N _ g1).2.2, (N _ g1).2.1⟩
    · exact ⟨(N _ g2).2.2, (N _ g2).2.1⟩
    · exact ⟨(N _ t1).2.2, (N _ t1).2.1⟩
    · exact ⟨(N _ t2).2.2, (N _ t2).2.1⟩
    · exact ⟨(N _ m1).2.2, (N _ m1).2.1⟩
    · exact ⟨(N _ m2).2.2, (N _ m2).2.1⟩
    · exact ⟨(N _ m3).2.2, (N _ m3).2.1⟩
  · obtain ⟨C, d, h⟩ := kids c hc
    exact ⟨C, d, (N _ h).1⟩
end
section
variable {w : World} {A₀ : Around} {s : Shared} {L a : Addr} {h₀ base : Heap} {m mg mb : Str → Option Value} {mean : ExcName → Option Value} {loose : List Str}
  {dp un : Nat} {gd : Option (List Code)} {cn : Str} {cs : Scope} {ccd : Value} {cl : List (Str × Addr)} {outer : List Env} {E : Value → Shared → Prop}
/-- InsertNodesBefore (35: InsertNodesAfter), whatever the turns do -/
theorem put_any {Q : Value → Shared → Prop} {b : Bool} {hd tx : Addr} {xs : List Addr} {nl n : Nat} {news : List (Addr × Obj)} {J : Nat → List (Addr × Obj) → Prop}
  (B : Below A₀ base outer h₀) (F : Fr h₀ L s.heap m) (X : (Mine.hd.heap_39 w.params).In h₀) (T : Top Mine.hd.view_39 loose mean mg mb h₀) (hk : cs.kind = .function)
  (N : News h₀ L s.heap news) (hJ0 : J 0 news) (hhd : (hd, listOf (xs.map Value.ref).toArray nl) ∈ news) (hkeep : ∀ i news₁, J i news₁ → (hd, listOf (xs.map Value.ref).toArray nl) ∈ news₁) (hadr : ∀ i news₁, J i news₁ → ∀ p ∈ news₁, p.1 ∈ news.map (·.1))
  (good : ∀ i x, i < n → (ordOf b xs)[i]? = some x → TurnGood w mg mb mean loose b tx x (J i) (J (i + 1))) (bad : ∀ x, (ordOf b xs)[n]? = some x → TurnBad w mg mb mean loose b tx x (J n)) (hn : n ≤ xs.length)
  (hdp : dp + 60 < recursionLimit) (hun : un + 600 < cLine)
  (ret : n = xs.length → ∀ news' h' tk', Fr h₀ L h' m → News h₀ L h' news' → J n news' → Q .none {s with heap := h', toks := tk'})
  (exc : n < xs.length → ∀ e news' h' tk', RaisedC base (envX cn cs L a ccd cl :: outer) e (.type "RuntimeError") news' h' → (∃ g, Fr h₀ L g m ∧ g.UpToSlots h') → J n news' → E (.ref e) {s with heap := h', toks := tk'})
  : wpAny (model pw w) (ktrTop dp un gd cn cs L a ccd cl outer) (call (.ref (if b = true then 35 else 28)) [.ref hd, .ref tx]) Q E s := by
  cases b with
  | false => exact before_spec B F X T hk N hJ0 hhd hkeep hadr good bad hn hdp hun ret exc
  | true => exact after_spec B F X T hk N hJ0 hhd hkeep hadr good bad hn hdp hun ret exc
theorem put_ok {Q : Value → Shared → Prop} {b : Bool} {hd : Addr} {t : Mid} {tgt : Sm} {k : Nat} {cs' : List Addr} {goods : List Sm} {xs : List Addr} {nl : Nat} {news : List (Addr × Obj)}
  (B : Below A₀ base outer h₀) (F : Fr h₀ L s.heap m) (X : (Mine.hd.heap_39 w.params).In h₀) (T : Top Mine.hd.view_39 loose mean mg mb h₀) (hk : cs.kind = .function)
  (N : News h₀ L s.heap news) (St : Stage t tgt k cs' goods news) (hhd : (hd, listOf (xs.map Value.ref).toArray nl) ∈ news) (hne : hd ≠ t.lm)
  (hg : (ordOf b xs).take goods.length = goods.map Sm.x) (hn : goods.length ≤ xs.length) (bad : ∀ x, (ordOf b xs)[goods.length]? = some x → ∃ bd P, x = bd.x ∧ BadOk t goods bd news P)
  (hdp : dp + 60 < recursionLimit) (hun : un + 600 < cLine)
  (ret : goods.length = xs.length → ∀ news' h' tk', Fr h₀ L h' m → News h₀ L h' news' → Scene b t k cs' goods news news' goods.length → Q .none {s with heap := h', toks := tk'})
  (exc : goods.length < xs.length → ∀ e news' h' tk', RaisedC base (envX cn cs L a ccd cl :: outer) e (.type "RuntimeError") news' h' → (∃ g, Fr h₀ L g m ∧ g.UpToSlots h') → Scene b t k cs' goods news news' goods.length → E (.ref e) {s with heap := h', toks := tk'})
  : wpAny (model pw w) (ktrTop dp un gd cn cs L a ccd cl outer) (call (.ref (if b = true then 35 else 28)) [.ref hd, .ref tgt.x]) Q E s := by
  refine put_any (J := fun i news₁ => Scene b t k cs' goods news news₁ i) B F X T hk N ?_ hhd (fun i news₁ Sc => scene_stays St Sc hhd (fun es n e => nomatch congrArg Obj.data e) hne) (fun i news₁ Sc => Sc.adr) (fun i x hi hx => ?_) (fun x hx => ?_) hn hdp hun ret exc
  · exact ⟨Nat.zero_le _, fun p hp _ => hp, by rw [List.take_zero, List.map_nil, csAt_nil, if_pos rfl]; exact St.mid, (fun sm h => by rw [List.take_zero] at h; cases h), fun p hp => List.mem_map.mpr ⟨p, hp, rfl⟩⟩
  · have h1 : ((ordOf b xs).take goods.length)[i]? = some x := by rw [List.getElem?_take_of_lt hi]; exact hx
    rw [hg, List.getElem?_map] at h1
    obtain ⟨sm, hsm, rfl⟩ := Option.map_eq_some_iff.mp h1
    exact turn_good St hsm
  · obtain ⟨bd, P, rfl, hb⟩ := bad x hx
    exact turn_bad St hb
theorem put_no {Q : Value → Shared → Prop} {b : Bool} {hd tx : Addr} {xs : List Addr} {nl : Nat} {news : List (Addr × Obj)}
  (B : Below A₀ base outer h₀) (F : Fr h₀ L s.heap m) (X : (Mine.hd.heap_39 w.params).In h₀) (T : Top Mine.hd.view_39 loose mean mg mb h₀) (hk : cs.kind = .function)
  (N : News h₀ L s.heap news) (hhd : (hd, listOf (xs.map Value.ref).toArray nl) ∈ news) (bad : ∀ x ∈ xs, TurnBad w mg mb mean loose b tx x (fun news₁ => news₁ = news))
  (hdp : dp + 60 < recursionLimit) (hun : un + 600 < cLine)
  (ret : xs = [] → ∀ h' tk', Fr h₀ L h' m → News h₀ L h' news → Q .none {s with heap := h', toks := tk'})
  (exc : xs ≠ [] → ∀ e h' tk', RaisedC base (envX cn cs L a ccd cl :: outer) e (.type "RuntimeError") news h' → (∃ g, Fr h₀ L g m ∧ g.UpToSlots h') → E (.ref e) {s with heap := h', toks := tk'})
  : wpAny (model pw w) (ktrTop dp un gd cn cs L a ccd cl outer) (call (.ref (if b = true then 35 else 28)) [.ref hd, .ref tx]) Q E s := by
  refine put_any (n := 0) (J := fun _ news₁ => news₁ = news) B F X T hk N rfl hhd (fun i news₁ e => by rw [e]; exact hhd) (fun i news₁ e p hp => List.mem_map.mpr ⟨p, by rw [← e]; exact hp, rfl⟩) (fun i x hi => absurd hi (Nat.not_lt_zero _)) (fun x hx => bad x ?_) (Nat.zero_le _) hdp hun (fun h0 news' h' tk' F' N' e => ?_) (fun h0 e news' h' tk' R U e' => ?_)
  · have := List.mem_of_getElem? hx
    unfold ordOf at this
    split at this
    · exact List.mem_reverse.mp this
    · exact this
  · subst e
    exact ret (List.length_eq_zero_iff.mp h0.symm) h' tk' F' N'
  · subst e'
    exact exc (fun h => by rw [h] at h0; exact absurd h0 (Nat.lt_irrefl _)) e h' tk' R U
end
section
variable {w : World} {A₀ : Around} {s : Shared} {L a : Addr} {h₀ base : Heap} {m mg mb : Str → Option Value} {mean : ExcName → Option Value} {loose : List Str}
  {dp un : Nat} {gd : Option (List Code)} {cn : Str} {cs : Scope} {ccd : Value} {cl : List (Str × Addr)} {outer : List Env} {E : Value → Shared → Prop}
end
end TX_Put
-- LawA
section TX_LawA
theorem led_max : ∀ (led : List (Addr × Obj)), led ≠ [] → ∃ p ∈ led, ∀ q ∈ led, @LE.le Nat _ q.1 p.1
  | [], h => absurd rfl h
  | [p], _ => ⟨p, .head _, fun q hq => by rw [List.mem_singleton.mp hq]; exact Nat.le_refl _⟩
  | p :: q :: r, _ => by
    obtain ⟨m, hm, hall⟩ := led_max (q :: r) (by simp)
    rcases Nat.le_total p.1 m.1 with h | h
    · refine ⟨m, .tail _ hm, fun x hx => ?_⟩
      rcases List.mem_cons.mp hx with rfl | hx
      · exact h
      · exact hall x hx
    · refine ⟨p, .head _, fun x hx => ?_⟩
      rcases List.mem_cons.mp hx with rfl | hx
      · exact Nat.le_refl _
      · exact Nat.le_trans (hall x hx) h
theorem SmOk.tight {led : List (Addr × Obj)} {sm : Sm} {par : Option Value} (o : SmOk (Gl led) sm par) (h : ∀ p ∈ led, sm.lo ≤ p.1 ∧ p.1 < sm.hi) :
    ∃ hi', SmOk (Gl led) { sm with hi := hi' } par ∧ (∀ p ∈ led, sm.lo ≤ p.1 ∧ p.1 < hi') ∧ ∃ p ∈ led, @LE.le Nat _ hi' (p.1 + 1) := by
  obtain ⟨es, n, io, id, a, b, c, i⟩ := o.ex
  obtain ⟨p, hp, hall⟩ := led_max led (by intro e; rw [e] at io; cases io)
  have rg : ∀ a o, (a, o) ∈ led → sm.lo ≤ a ∧ a < (show Nat from p.1) + 1 := fun a o hm => ⟨(h _ hm).1, Nat.lt_succ_of_le (hall _ hm)⟩
  refine ⟨(show Nat from p.1) + 1, ⟨⟨es, n, io, id, a, b, c, ?_⟩, rg _ _ io, rg _ _ id, o.ne⟩, fun q hq => rg q.1 q.2 hq, p, hp, Nat.le_refl _⟩
  rcases i with i | ⟨hC, l, nl, lfs, e1, e2, e3, e4, e5, e6, e7, e8⟩
  · exact .inl i
  · exact .inr ⟨hC, l, nl, lfs, e1, e2, (rg _ _ e2).1, (rg _ _ e2).2, e5, e6, fun lf hlf => let q := e7 lf hlf; ⟨q.ob, q.dc, q.tx, q.sz, q.ln, ⟨(rg _ _ q.ob).1, (rg _ _ q.ob).2, q.rx.2.2⟩, ⟨(rg _ _ q.dc).1, (rg _ _ q.dc).2, q.rd.2.2⟩⟩, e8⟩
section
variable {w : World} {A₀ : Around} {s : Shared} {L a : Addr} {h₀ base : Heap} {m mg mb : Str → Option Value} {mean : ExcName → Option Value} {loose : List Str}
  {dp un : Nat} {gd : Option (List Code)} {cn : Str} {cs : Scope} {ccd : Value} {cl : List (Str × Addr)} {outer : List Env} {E : Value → Shared → Prop}
theorem fresh_base {h : Heap} (F : Fr h₀ L h m) {b : Addr} (hb : h.objs.size ≤ b) : h₀.get? b = none := by
  cases q : h₀.get? b with
  | none => rfl
  | some o => exact absurd (Nat.lt_of_lt_of_le (Heap.lt_size (F.keep b o q)) hb) (Nat.lt_irrefl _)
theorem digits_news {Q : Value → Shared → Prop} {l : Addr} {us : List Value} {ns : List Int} {news : List (Addr × Obj)}
  (B : Below A₀ base outer h₀) (F : Fr h₀ L s.heap m) (X : (Mine.hd.heap_39 w.params).In h₀) (T : Top Mine.hd.view_39 loose mean mg mb h₀) (hk : cs.kind = .function)
  (N : News h₀ L s.heap news) (hl : h₀.IsList l us.toArray) (hi : IntsAre us ns) (hlen : us.length ≤ 100)
  (hdp : dp + 40 < recursionLimit) (hun : un + 400 < cLine)
  (ret : ∀ D vs n' h' tk', Digs vs → AllNe D news → Fr h₀ L h' m → News h₀ L h' ((D, listOf vs.toArray n') :: news) → Q (.ref D) {s with heap := h', toks := tk'})
  : wpAny (model pw w) (ktrTop dp un gd cn cs L a ccd cl outer) (call (.ref 336) [.ref l]) Q E s := by
  refine digits_spec B F X T hk hl hi hlen hdp hun fun D vs n' h' tk' hv hD ex hd => ?_
  have ne : ∀ b o, s.heap.get? b = some o → b ≠ D := fun b o e q => by rw [q, hD] at e; cases e
  obtain ⟨oL, _, _, eL, _⟩ := F.ns
  refine ret D vs n' h' tk' hv (allNe_of fun p hp => ne _ _ (N p hp).1) (ex.fr F (fun h => nomatch h) (fun _ h => nomatch h)) fun p hp => ?_
  rcases List.mem_cons.mp hp with rfl | hp
  · refine ⟨hd, (ne L oL eL).symm, ?_⟩
    cases q : h₀.get? D with
    | none => rfl
    | some o => have := F.keep D o q; rw [hD] at this; cases this
  · exact (ex.news N (fun _ _ h => nomatch h)) p hp
theorem small_news {Q : Value → Shared → Prop} {D : Addr} {vs : List Value} {n : Nat} {word : Str} {u : Tok} {news : List (Addr × Obj)} {gf : Obj → List (Addr × Obj)}
  (B : Below A₀ base outer h₀) (F : Fr h₀ L s.heap m) (X : (Mine.hd.heap_39 w.params).In h₀) (T : Top Mine.hd.view_39 loose mean mg mb h₀) (hk : cs.kind = .function)
  (N : News h₀ L s.heap news) (U : UpdF D (listOf vs.toArray n) news gf) (hv : Digs vs) (hword : word.length ≤ 20)
  (hdp : dp + 40 < recursionLimit) (hun : un + 400 < cLine)
  (ret : ∀ sm led vs' n' h' tk', Digs vs' → SmOk (Gl led) sm none → (∀ p ∈ led, sm.lo ≤ p.1 ∧ p.1 < sm.hi) → (∀ p ∈ news, p.1 < sm.lo) → L < sm.lo → (∃ p ∈ led, @LE.le Nat _ sm.hi (p.1 + 1)) → Fr h₀ L h' m → News h₀ L h' (led ++ gf (listOf vs'.toArray n')) → Q (.ref sm.x) {s with heap := h', toks := tk'})
  : wpAny (model pw w) (ktrTop dp un gd cn cs L a ccd cl outer) (call (.ref 348) [.ref D, .str word u]) Q E s := by
  obtain ⟨pre, post, rfl, hg, h1, h2⟩ := U.split
  have z := N (D, listOf vs.toArray n) (List.mem_append_right _ (.head _))
  refine small_spec B F X T hk z.1 z.2.2 z.2.1 hv hword hdp hun fun sm vs' n' h' tk' hv' ok hlo hhi ex hd => ?_
  have F' : Fr h₀ L h' m := ex.fr F (by simpa using Ne.symm z.2.1) (by simpa using z.2.2)
  obtain ⟨led, hled, ok'⟩ := ok.led
  obtain ⟨hi', ok', hled', ht⟩ := ok'.tight (fun p hp => (hled p hp).2)
  have hL : L < sm.lo := by rw [hlo]; exact F.ns.lt
  refine ret { sm with hi := hi' } led vs' n' h' tk' hv' ok' hled' (fun p hp => by show p.1 < sm.lo; rw [hlo]; exact Heap.lt_size (N p hp).1) hL ht F' fun p hp => ?_
  rcases List.mem_append.mp hp with hp | hp
  · have q := hled p hp
    exact ⟨q.1, Nat.ne_of_gt (Nat.lt_of_lt_of_le hL q.2.1), fresh_base F (by rw [← hlo]; exact q.2.1)⟩
  rw [hg] at hp
  rcases List.mem_append.mp hp with hp | hp
  · exact (ex.news (news := pre) (fun p hp => N p (List.mem_append_left _ hp)) (fun p hp => by simpa using h1 p hp)) p hp
  · rcases List.mem_cons.mp hp with rfl | hp
    · exact ⟨hd, z.2⟩
    · exact (ex.news (news := post) (fun p hp => N p (List.mem_append_right _ (.tail _ hp))) (fun p hp => by simpa using h2 p hp)) p hp
end
theorem usLen {us : List Value} {ns : List Int} (hI : IntsAre us ns) (h : ¬ ((63 : Nat) : Int) < (ns.length : Int)) : us.length ≤ 100 := by rw [hI.length]; omega

/-- the state of a comprehension that makes small things -/
def SmInv (mk : Obj → List (Addr × Obj)) (D C1 : Addr) (pre : List Sm) (i : Nat) (ys : List Value) (news : List (Addr × Obj)) : Prop :=
  ∃ (sms : List Sm) (vs : List Value) (n : Nat) (rest : List (Addr × Obj)), ys = sms.map (fun q : Sm => Value.ref q.x) ∧ sms.length = i ∧ news = mk (listOf vs.toArray n) ++ rest ∧ Digs vs ∧ (∀ p ∈ rest, p.1 ≠ D) ∧
    (∀ sm ∈ pre ++ sms, SmOk (Gl rest) sm none ∧ ∃ p ∈ rest, @LE.le Nat _ sm.hi (p.1 + 1)) ∧ (pre ++ sms).Pairwise Disj ∧ (∀ sm ∈ pre ++ sms, @LT.lt Nat _ D sm.lo ∧ @LT.lt Nat _ C1 sm.lo)
theorem SmInv.next {mk : Obj → List (Addr × Obj)} {D C1 : Addr} {pre sms : List Sm} {sm : Sm} {rest led : List (Addr × Obj)} {vs' : List Value} {n' i : Nat} {all : List (Addr × Obj)} (hlen : sms.length = i) (hv : Digs vs') (hne : ∀ p ∈ rest, p.1 ≠ D)
    (h1 : ∀ sm ∈ pre ++ sms, SmOk (Gl rest) sm none ∧ ∃ p ∈ rest, @LE.le Nat _ sm.hi (p.1 + 1)) (h2 : (pre ++ sms).Pairwise Disj) (h3 : ∀ sm ∈ pre ++ sms, @LT.lt Nat _ D sm.lo ∧ @LT.lt Nat _ C1 sm.lo) (ok : SmOk (Gl led) sm none) (r1 : ∀ p ∈ led, sm.lo ≤ p.1 ∧ p.1 < sm.hi) (r2 : ∀ p ∈ all, p.1 < sm.lo) (hall : ∀ p ∈ rest, p ∈ all) (hD : ∃ o, (D, o) ∈ all) (hC : ∃ o, (C1, o) ∈ all)
    (r4 : ∃ p ∈ led, @LE.le Nat _ sm.hi (p.1 + 1)) : SmInv mk D C1 pre (i + 1) (sms.map (fun q : Sm => Value.ref q.x) ++ [.ref sm.x]) (mk (listOf vs'.toArray n') ++ (led ++ rest)) := by
  refine ⟨sms ++ [sm], vs', n', led ++ rest, by rw [List.map_append]; rfl, by rw [List.length_append, hlen]; rfl, rfl, hv, fun p hp => ?_, fun q hq => ?_, ?_, fun q hq => ?_⟩
  · rcases List.mem_append.mp hp with hp | hp
    · obtain ⟨o, ho⟩ := hD
      exact Nat.ne_of_gt (Nat.lt_of_lt_of_le (r2 _ ho) (r1 p hp).1)
    · exact hne p hp
  · rw [← List.append_assoc] at hq
    rcases List.mem_append.mp hq with hq | hq
    · obtain ⟨a, p, hp, b⟩ := h1 q hq
      exact ⟨a.mono fun _ _ h => List.mem_append_right _ h, p, List.mem_append_right _ hp, b⟩
    · rw [List.mem_singleton.mp hq]
      obtain ⟨p, hp, b⟩ := r4
      exact ⟨ok.mono fun _ _ h => List.mem_append_left _ h, p, List.mem_append_left _ hp, b⟩
  · rw [← List.append_assoc]
    refine List.pairwise_append.mpr ⟨h2, by simp, fun q hq q' hq' => ?_⟩
    rw [List.mem_singleton.mp hq']
    obtain ⟨_, p, hp, b⟩ := h1 q hq
    exact .inl (Nat.le_trans b (r2 p (hall p hp)))
  · rw [← List.append_assoc] at hq
    rcases List.mem_append.mp hq with hq | hq
    · exact h3 q hq
    · rw [List.mem_singleton.mp hq]
      obtain ⟨o, ho⟩ := hD
      obtain ⟨o', ho'⟩ := hC
      exact ⟨r2 _ ho, r2 _ ho'⟩
theorem natLen (c : String) (i : Nat) (hc : (Str.ofString c).length ≤ 10) (hi : i ≤ 9) : (Str.ofString c ++ Str.ofString (toString ((0 : Int) + (i : Int)))).length ≤ 20 := by
  rw [len_cat]
  have : (Str.ofString (toString ((0 : Int) + (i : Int)))).length ≤ 2 := by
    rcases (by omega : i = 0 ∨ i = 1 ∨ i = 2 ∨ i = 3 ∨ i = 4 ∨ i = 5 ∨ i = 6 ∨ i = 7 ∨ i = 8 ∨ i = 9) with rfl | rfl | rfl | rfl | rfl | rfl | rfl | rfl | rfl | rfl <;> decide +kernel
  omega
theorem rng5n (x : Int) : Builtin.Range.rangeSize 0 (x.fmod 5) 1 = (((x.fmod 5).toNat : Nat) : Int) := by
  have h := rangeSize_nat 0 (x.fmod 5)
  rw [h, Int.sub_zero]
theorem rng5b (x : Int) : (x.fmod 5).toNat ≤ 4 := by
  have h0 := Int.fmod_nonneg_of_pos x (show (0 : Int) < 5 by decide)
  have h1 := Int.fmod_lt_of_pos x (show (0 : Int) < 5 by decide)
  omega
theorem rng5s (x : Int) : Builtin.Range.small 0 (x.fmod 5) 1 = true := by
  have h0 := Int.fmod_nonneg_of_pos x (show (0 : Int) < 5 by decide)
  have h1 := Int.fmod_lt_of_pos x (show (0 : Int) < 5 by decide)
  generalize x.fmod 5 = y at h0 h1
  rcases (by omega : y = 0 ∨ y = 1 ∨ y = 2 ∨ y = 3 ∨ y = 4) with rfl | rfl | rfl | rfl | rfl <;> rfl
theorem rng4n {r : Int} : Builtin.Range.rangeSize 0 (1 + r) 1 = (((1 + r).toNat : Nat) : Int) := by
  have h := rangeSize_nat 0 (1 + r)
  rw [h, Int.sub_zero]
theorem rng4s {r : Int} (h0 : 0 ≤ r) (h1 : r < 4) : Builtin.Range.small 0 (1 + r) 1 = true := by
  rcases (by omega : r = 0 ∨ r = 1 ∨ r = 2 ∨ r = 3) with rfl | rfl | rfl | rfl <;> rfl
theorem turn_sub {I C Da D : Addr} {oI oC oDa o : Obj} {pre led rest : List (Addr × Obj)} : ∀ p ∈ (I, oI) :: (C, oC) :: (Da, oDa) :: ((D, o) :: pre ++ (led ++ rest)), p ∈ led ++ ((I, oI) :: (C, oC) :: (Da, oDa) :: ((D, o) :: pre ++ rest)) := fun p hp => by
  simp only [List.mem_cons, List.mem_append] at hp ⊢
  rcases hp with h | h | h | (h | h) | h | h
  · exact .inr (.inl h)
  · exact .inr (.inr (.inl h))
  · exact .inr (.inr (.inr (.inl h)))
  · exact .inr (.inr (.inr (.inr (.inl (.inl h)))))
  · exact .inr (.inr (.inr (.inr (.inl (.inr h)))))
  · exact .inl h
  · exact .inr (.inr (.inr (.inr (.inr h))))
section
variable {w : World} {A₀ : Around} {s : Shared} {L a : Addr} {h₀ base : Heap} {m mg mb : Str → Option Value} {mean : ExcName → Option Value} {loose : List Str}
  {dp un : Nat} {gd : Option (List Code)} {cn : Str} {cs : Scope} {ccd : Value} {cl : List (Str × Addr)} {outer : List Env} {E : Value → Shared → Prop}
theorem small_turn {Q : Value → Shared → Prop} {I C Da D C1 : Addr} {oI oC oDa : Obj} {pre rest : List (Addr × Obj)} {sms pre₀ : List Sm} {vs : List Value} {n i : Nat} {word : Str} {u : Tok}
  (B : Below A₀ base outer h₀) (F : Fr h₀ L s.heap m) (X : (Mine.hd.heap_39 w.params).In h₀) (T : Top Mine.hd.view_39 loose mean mg mb h₀) (hk : cs.kind = .function)
  (N : News h₀ L s.heap ((I, oI) :: (C, oC) :: (Da, oDa) :: ((D, listOf vs.toArray n) :: pre ++ rest))) (off : LCg.Off3 I C Da ((D, listOf vs.toArray n) :: pre ++ rest)) (hpre : ∀ p ∈ pre, p.1 ≠ D) (hv : Digs vs) (hword : word.length ≤ 20)
  (hlen : sms.length = i) (hDr : ∀ p ∈ rest, p.1 ≠ D) (hok : ∀ sm ∈ pre₀ ++ sms, SmOk (Gl rest) sm none ∧ ∃ p ∈ rest, @LE.le Nat _ sm.hi (p.1 + 1)) (hdj : (pre₀ ++ sms).Pairwise Disj) (hDlo : ∀ sm ∈ pre₀ ++ sms, @LT.lt Nat _ D sm.lo ∧ @LT.lt Nat _ C1 sm.lo) (hC1 : ∃ o, (C1, o) ∈ pre)
  (hdp : dp + 40 < recursionLimit) (hun : un + 400 < cLine)
  (ret : ∀ (sm : Sm) news' h' tk', Fr h₀ L h' m → News h₀ L h' ((I, oI) :: (C, oC) :: (Da, oDa) :: news') → (∀ p ∈ news', p.1 ≠ I ∧ p.1 ≠ C ∧ p.1 ≠ Da) → SmInv (fun o => (D, o) :: pre) D C1 pre₀ (i + 1) (sms.map (fun q : Sm => Value.ref q.x) ++ [.ref sm.x]) news' → Q (.ref sm.x) {s with heap := h', toks := tk'})
  : wpAny (model pw w) (ktrTop dp un gd cn cs L a ccd cl outer) (call (.ref 348) [.ref D, .str word u]) Q E s := by
  have oD := off.mem (D, listOf vs.toArray n) (List.mem_append_left _ (.head _))
  refine small_news B F X T hk N (.tail (Ne.symm oD.1) (.tail (Ne.symm oD.2.1) (.tail (Ne.symm oD.2.2) (.head fun p hp => ?_)))) hv hword hdp hun fun sm led vs' n' h' tk' hv' ok' r1 r2 r3 r4 F' N' => ?_
  · rcases List.mem_append.mp hp with hp | hp
    · exact hpre p hp
    · exact hDr p hp
  · have up : ∀ b, b < sm.lo → ∀ p ∈ led, p.1 ≠ b := fun b hb p hp => Nat.ne_of_gt (Nat.lt_of_lt_of_le hb (r1 p hp).1)
    refine ret sm ((D, listOf vs'.toArray n') :: pre ++ (led ++ rest)) h' tk' F' (fun p hp => N' p (turn_sub p hp)) (fun p hp => ?_) (SmInv.next hlen hv' hDr hok hdj hDlo ok' r1 r2 (fun p hp => .tail _ (.tail _ (.tail _ (List.mem_append_right _ hp)))) ⟨_, .tail _ (.tail _ (.tail _ (List.mem_append_left _ (.head _))))⟩ (hC1.elim fun o ho => ⟨o, .tail _ (.tail _ (.tail _ (List.mem_append_left _ (.tail _ ho))))⟩) r4)
    rcases List.mem_append.mp hp with hp | hp
    · rcases List.mem_cons.mp hp with rfl | hp
      · exact oD
      · exact off.mem p (List.mem_append_left _ (.tail _ hp))
    · rcases List.mem_append.mp hp with hp | hp
      · exact ⟨up I (r2 _ (.head _)) p hp, up C (r2 _ (.tail _ (.head _))) p hp, up Da (r2 _ (.tail _ (.tail _ (.head _)))) p hp⟩
      · exact off.mem p (List.mem_append_right _ hp)
end
theorem swap2 {h₀ h : Heap} {L : Addr} {a b : Addr × Obj} {r : List (Addr × Obj)} (N : News h₀ L h (a :: b :: r)) : News h₀ L h (b :: a :: r) := fun p hp => by
  rcases List.mem_cons.mp hp with rfl | hp
  · exact N _ (.tail _ (.head _))
  rcases List.mem_cons.mp hp with rfl | hp
  · exact N _ (.head _)
  · exact N _ (.tail _ (.tail _ hp))
theorem ne_post {D Ln c1 c2 : Addr} {o o1 o2 : Obj} {rest : List (Addr × Obj)} (h0 : @Ne Nat D Ln) (h1 : @Ne Nat c1 D) (h2 : @Ne Nat c2 D) (h3 : ∀ p ∈ rest, p.1 ≠ D) : ∀ p ∈ (Ln, o) :: (c1, o1) :: (c2, o2) :: rest, p.1 ≠ D := fun p hp => by
  rcases List.mem_cons.mp hp with rfl | hp
  · exact Ne.symm h0
  rcases List.mem_cons.mp hp with rfl | hp
  · exact h1
  rcases List.mem_cons.mp hp with rfl | hp
  · exact h2
  · exact h3 p hp
section
variable {w : World} {A₀ : Around} {s : Shared} {L a : Addr} {h₀ base : Heap} {m mg mb : Str → Option Value} {mean : ExcName → Option Value} {loose : List Str}
  {dp un : Nat} {gd : Option (List Code)} {cn : Str} {cs : Scope} {ccd : Value} {cl : List (Str × Addr)} {outer : List Env} {E : Value → Shared → Prop}
end
end TX_LawA
-- LawN
section TX_LawN
theorem news_fn {h₀ h : Heap} {L : Addr} {news : List (Addr × Obj)} (N : News h₀ L h news) : ∀ a o o', (a, o) ∈ news → (a, o') ∈ news → o = o' := fun a o o' h1 h2 => by
  have e1 := (N _ h1).1
  have e2 := (N _ h2).1
  exact Option.some.inj (e1.symm.trans e2)
/-- small things as children that are handed in -/
theorem kds_of {G : Where} : ∀ js : List Sm, (∀ sm ∈ js, SmOk G sm none) → ∃ kids : List Kd, kids.map (fun k : Kd => k.c) = js.map Sm.x ∧ kids.map (fun k : Kd => k.d) = js.map Sm.d ∧ ∀ k ∈ kids, G k.c (instObj k.C k.d) ∧ G k.d (dictOf k.es k.n) ∧ (k.C = 247 ∨ k.C = 327) ∧ getL "parent" k.es = some none ∧ k.es.length ≤ 40
  | [], _ => ⟨[], rfl, rfl, fun _ h => nomatch h⟩
  | sm :: r, h => by
    obtain ⟨kids, e1, e2, e3⟩ := kds_of r fun q hq => h q (.tail _ hq)
    have o := h sm (.head _)
    obtain ⟨es, n, a, b, c, _, d, _⟩ := o.ex
    refine ⟨⟨sm.x, sm.C, sm.d, es, n⟩ :: kids, by rw [List.map_cons, List.map_cons, e1], by rw [List.map_cons, List.map_cons, e2], fun k hk => ?_⟩
    rcases List.mem_cons.mp hk with rfl | hk
    · exact ⟨a, b, o.cls, c, Nat.le_trans d (by simp)⟩
    · exact e3 k hk
theorem disj_ne_d {js : List Sm} (hd : js.Pairwise Disj) (hr : ∀ sm ∈ js, sm.lo ≤ sm.d ∧ sm.d < sm.hi) : (js.map Sm.d).Nodup := by
  induction js with
  | nil => exact List.nodup_nil
  | cons a r ih =>
    obtain ⟨h1, h2⟩ := List.pairwise_cons.mp hd
    rw [List.map_cons, List.nodup_cons]
    refine ⟨fun hm => ?_, ih h2 fun sm h => hr sm (.tail _ h)⟩
    obtain ⟨q, hq, e⟩ := List.mem_map.mp hm
    have ra := hr a (.head _)
    have rq := hr q (.tail _ hq)
    exact (h1 q hq).ne ra.1 ra.2 rq.1 rq.2 e.symm
/-- a small thing that is no child stands -/
theorem keep_other {news news' : List (Addr × Obj)} {S : List Addr} {sm : Sm} {par : Option Value} (k : Keep S news news') (o : SmOk (Gl news) sm par) (h : ∀ c ∈ S, ∀ b, sm.lo ≤ b → b < sm.hi → b ≠ c) : SmOk (Gl news') sm par :=
  o.keeps fun b ob h1 h2 hm => k (b, ob) hm fun hs => h b hs b h1 h2 rfl
section
variable {w : World} {A₀ : Around} {s : Shared} {L a : Addr} {h₀ base : Heap} {m mg mb : Str → Option Value} {mean : ExcName → Option Value} {loose : List Str}
  {dp un : Nat} {gd : Option (List Code)} {cn : Str} {cs : Scope} {ccd : Value} {cl : List (Str × Addr)} {outer : List Env} {E : Value → Shared → Prop}
theorem node_led {Q : Value → Shared → Prop} {lc : Addr} {k : Int} {kids : List Kd} {nl : Nat} {u : Tok} {news : List (Addr × Obj)}
  (B : Below A₀ base outer h₀) (F : Fr h₀ L s.heap m) (X : (Mine.hd.heap_39 w.params).In h₀) (T : Top Mine.hd.view_39 loose mean mg mb h₀) (hk : cs.kind = .function) (N : News h₀ L s.heap news)
  (hlc : (lc, listOf (kids.map fun k : Kd => Value.ref k.c).toArray nl) ∈ news) (hkids : ∀ k ∈ kids, (k.c, instObj k.C k.d) ∈ news ∧ (k.d, dictOf k.es k.n) ∈ news ∧ (k.C = 247 ∨ k.C = 327) ∧ getL "parent" k.es = some none ∧ k.es.length ≤ 40)
  (hnd : (kids.map (·.d)).Nodup) (hlen : kids.length ≤ 10) (hk0 : 256 ≤ k) (hdp : dp + 20 < recursionLimit) (hun : un + 200 < cLine)
  (ret : ∀ x dx l es n nl' news' h' tk', (∀ p ∈ news, p.1 < dx) → dx < x → x < l → Fr h₀ L h' m → News h₀ L h' ((x, instObj 247 dx) :: (dx, dictOf es n) :: (l, listOf (kids.map fun k : Kd => Value.ref k.c).toArray nl') :: news') → NodeEs es l → Keep (kids.map (·.d)) news news' → (∀ p ∈ news', p.1 ∈ news.map (·.1)) →
    (∀ k ∈ kids, ∃ es' n', Put "parent" (.ref x) k.es es' ∧ (k.d, dictOf es' n') ∈ news') → Q (.ref x) {s with heap := h', toks := tk'})
  : wpAny (model pw w) (ktrTop dp un gd cn cs L a ccd cl outer) (call (.ref 247) [.int k u, .ref lc]) Q E s := by
  refine node_made B F X T hk (N _ hlc).1 (fun k hk => ?_) (fun k hk => ?_) hnd hlen hk0 hdp hun fun x dx l es n nl' h' tk' hdx hx hl io nes hlst hput ex => ?_
  · obtain ⟨a, b, c, d, e⟩ := hkids k hk
    exact ⟨⟨(N _ a).1, (N _ b).1⟩, c, d, e⟩
  · obtain ⟨a, b, _⟩ := hkids k hk
    exact ⟨(N _ a).2.2, (N _ b).2.2, (N _ a).2.1, (N _ b).2.1⟩
  · have F' : Fr h₀ L h' m := ex.fr F (fun hm => by
      obtain ⟨k, hk, e⟩ := List.mem_map.mp hm
      exact (N _ (hkids k hk).2.1).2.1 e) (fun b hb => by
      obtain ⟨k, hk, e⟩ := List.mem_map.mp hb
      rw [← e]; exact (N _ (hkids k hk).2.1).2.2)
    have hL : L < s.heap.objs.size := F.ns.lt
    have big : ∀ b, dx ≤ b → b ≠ L ∧ h₀.get? b = none := fun b hb => ⟨Nat.ne_of_gt (Nat.lt_of_lt_of_le hL (Nat.le_trans hdx hb)), fresh_base F (Nat.le_trans hdx hb)⟩
    have old : ∀ c ∈ news.map (·.1), c ≠ L ∧ h₀.get? c = none := fun c hc => by
      obtain ⟨q, hq, e⟩ := List.mem_map.mp hc
      have e' : q.1 = c := e
      rw [← e']; exact ⟨(N q hq).2.1, (N q hq).2.2⟩
    refine ret x dx l es n nl' (ledOf (news.map (·.1)) h') h' tk' (fun p hp => Nat.lt_of_lt_of_le (Heap.lt_size (N p hp).1) hdx) hx hl F' (fun p hp => ?_) nes (fun p hp hn => ?_) (fun p hp => ?_) (fun k hk => ?_)
    · rcases List.mem_cons.mp hp with rfl | hp
      · exact ⟨io.obj, big _ (Nat.le_of_lt hx)⟩
      rcases List.mem_cons.mp hp with rfl | hp
      · exact ⟨io.dct, big _ (Nat.le_refl _)⟩
      rcases List.mem_cons.mp hp with rfl | hp
      · exact ⟨hlst, big _ (Nat.le_of_lt (Nat.lt_trans hx hl))⟩
      · obtain ⟨c, o⟩ := p
        obtain ⟨hc, ho⟩ := mem_ledOf.mp hp
        exact ⟨ho, old c hc⟩
    · exact mem_ledOf.mpr ⟨List.mem_map.mpr ⟨p, hp, rfl⟩, ex _ _ hn (N _ hp).1⟩
    · obtain ⟨c, o⟩ := p
      exact (mem_ledOf.mp hp).1
    · obtain ⟨es', n', hp, e⟩ := hput k hk
      exact ⟨es', n', hp, mem_ledOf.mpr ⟨List.mem_map.mpr ⟨_, (hkids k hk).2.1, rfl⟩, e⟩⟩
/-- a node of small things -/
theorem node_sms {Q : Value → Shared → Prop} {lc : Addr} {k : Int} {js : List Sm} {nl : Nat} {u : Tok} {news : List (Addr × Obj)}
  (B : Below A₀ base outer h₀) (F : Fr h₀ L s.heap m) (X : (Mine.hd.heap_39 w.params).In h₀) (T : Top Mine.hd.view_39 loose mean mg mb h₀) (hk : cs.kind = .function) (N : News h₀ L s.heap news)
  (hlc : (lc, listOf (js.map fun q : Sm => Value.ref q.x).toArray nl) ∈ news) (hjs : ∀ sm ∈ js, SmOk (Gl news) sm none) (hdj : js.Pairwise Disj) (hlen : js.length ≤ 10) (hk0 : 256 ≤ k) (hdp : dp + 20 < recursionLimit) (hun : un + 200 < cLine)
  (ret : ∀ x dx l es n nl' news' h' tk', (∀ p ∈ news, p.1 < dx) → dx < x → x < l → Fr h₀ L h' m → News h₀ L h' ((x, instObj 247 dx) :: (dx, dictOf es n) :: (l, listOf ((js.map Sm.x).map Value.ref).toArray nl') :: news') → NodeEs es l → Keep (js.map Sm.d) news news' → (∀ p ∈ news', p.1 ∈ news.map (·.1)) →
    (∀ sm ∈ js, SmOk (Gl news') sm (some (.ref x))) → Q (.ref x) {s with heap := h', toks := tk'})
  : wpAny (model pw w) (ktrTop dp un gd cn cs L a ccd cl outer) (call (.ref 247) [.int k u, .ref lc]) Q E s := by
  obtain ⟨kids, e1, e2, e3⟩ := kds_of js hjs
  have ec : (kids.map fun k : Kd => Value.ref k.c) = js.map fun q : Sm => Value.ref q.x := by
    have h1 : (kids.map fun k : Kd => Value.ref k.c) = (kids.map fun k : Kd => k.c).map Value.ref := by rw [List.map_map]; rfl
    have h2 : (js.map fun q : Sm => Value.ref q.x) = (js.map Sm.x).map Value.ref := by rw [List.map_map]; rfl
    rw [h1, h2, e1]
  have rd : ∀ sm ∈ js, sm.lo ≤ sm.d ∧ sm.d < sm.hi := fun sm h => (hjs sm h).rd
  have hn := disj_ne_d hdj rd
  have hl : kids.length = js.length := by have := congrArg List.length e1; rwa [List.length_map, List.length_map] at this
  refine node_led B F X T hk N (by rw [ec]; exact hlc) (fun k hk => e3 k hk) (by rw [show kids.map (·.d) = js.map Sm.d from e2]; exact hn) (by omega) hk0 hdp hun fun x dx l es n nl' news' h' tk' hlt h1 h2 F' N' nes kp adr hput => ?_
  rw [ec] at N'
  rw [show kids.map (·.d) = js.map Sm.d from e2] at kp
  have fn := news_fn N
  refine ret x dx l es n nl' news' h' tk' hlt h1 h2 F' (by rw [List.map_map]; exact N') nes kp adr fun sm hsm => ?_
  refine (hjs sm hsm).put (fun b o b1 b2 hb hm => kp (b, o) hm fun hs => ?_) fun es0 n0 h0 => ?_
  · obtain ⟨q, hq, e⟩ := List.mem_map.mp hs
    by_cases hqs : q = sm
    · rw [hqs] at e; exact hb e.symm
    · have dj : Disj q sm := by
        obtain ⟨i, hi, rfl⟩ := List.mem_iff_getElem.mp hq
        obtain ⟨j, hj, rfl⟩ := List.mem_iff_getElem.mp hsm
        rcases Nat.lt_trichotomy i j with h | h | h
        · exact List.pairwise_iff_getElem.mp hdj i j hi hj h
        · subst h; exact absurd rfl hqs
        · exact (List.pairwise_iff_getElem.mp hdj j i hj hi h).symm
      have rq := rd q hq
      exact dj.ne rq.1 rq.2 b1 b2 e
  · have hm : sm.d ∈ kids.map (fun k : Kd => k.d) := by rw [e2]; exact List.mem_map.mpr ⟨sm, hsm, rfl⟩
    obtain ⟨k, hk, e⟩ := List.mem_map.mp hm
    have e' : k.d = sm.d := e
    obtain ⟨es', n', hp, hd⟩ := hput k hk
    have q := fn _ _ _ h0 (by rw [← e']; exact (e3 k hk).2.1)
    have q2 : es0 = k.es := by
      have z := congrArg Obj.data q
      injection z with z1 z2
      have := congrArg Array.toList z1
      simpa using this
    subst q2
    exact ⟨es', n', hp, by rw [← e']; exact hd⟩
theorem rest_made {Q : Value → Shared → Prop} {lc x dx : Addr} {k : Int} {es : List DictEntry} {n nl : Nat} {u : Tok} {more : List (Addr × Obj)} {p v : Str}
  (B : Below A₀ base outer h₀) (F : Fr h₀ L s.heap m) (X : (Mine.hd.heap_39 w.params).In h₀) (T : Top Mine.hd.view_39 loose mean mg mb h₀) (hk : cs.kind = .function)
  (N : News h₀ L s.heap ((lc, listOf [Value.ref x].toArray nl) :: (x, instObj 327 dx) :: (dx, dictOf es n) :: more)) (le : LeafEs es p v) (hx : @LT.lt Nat _ dx x) (hmore : ∀ q ∈ more, @LT.lt Nat _ q.1 dx) (hpv : (p ++ v).length ≤ 60)
  (hk0 : 256 ≤ k) (hdp : dp + 20 < recursionLimit) (hun : un + 200 < cLine)
  (ret : ∀ (rst : Sm) led h' tk', Fr h₀ L h' m → News h₀ L h' (led ++ more) → SmOk (Gl led) rst none → (∃ q ∈ led, @LE.le Nat _ rst.hi (q.1 + 1)) → (∀ q ∈ more, q.1 < rst.lo) → rst.txt = Txt.join "" [p ++ v] → Q (.ref rst.x) {s with heap := h', toks := tk'})
  : wpAny (model pw w) (ktrTop dp un gd cn cs L a ccd cl outer) (call (.ref 247) [.int k u, .ref lc]) Q E s := by
  obtain ⟨⟨tp, ep⟩, ⟨tv, ev⟩, lpar, lchg, llen⟩ := le
  refine node_led (kids := [⟨x, 327, dx, es, n⟩]) (nl := nl) B F X T hk N (.head _) (fun k hk => ?_) (by simp) (by simp) hk0 hdp hun fun y dy l es2 n2 nl2 news' h' tk' hlt h1 h2 F' N' nes kp adr hput => ?_
  · rw [List.mem_singleton.mp hk]
    exact ⟨.tail _ (.head _), .tail _ (.tail _ (.head _)), .inr rfl, lpar, Nat.le_trans llen (by decide)⟩
  · obtain ⟨es', n', hp, hd⟩ := hput _ (.head _)
    have nx : x ≠ dx := fun e => by rw [e] at hx; exact Nat.lt_irrefl _ hx
    have kx : (x, instObj 327 dx) ∈ news' := kp _ (.tail _ (.head _)) (by simpa using nx)
    have ndy : ∀ b, b < dy → b ≠ dy := fun b h e => by rw [e] at h; exact Nat.lt_irrefl _ h
    have x1 : x < dy := hlt _ (.tail _ (.head _))
    have d1 : dx < dy := hlt _ (.tail _ (.tail _ (.head _)))
    have x1' : @LT.lt Nat _ x dy := x1
    have d1' : @LT.lt Nat _ dx dy := d1
    have h1' : @LT.lt Nat _ dy y := h1
    have h2' : @LT.lt Nat _ y l := h2
    refine ret ⟨y, 247, dy, dx, (show Nat from l) + 1, Txt.join "" [p ++ v]⟩ [(y, instObj 247 dy), (dy, dictOf es2 n2), (l, listOf [Value.ref x].toArray nl2), (x, instObj 327 dx), (dx, dictOf es' n')] h' tk' F' (fun q hq => ?_) ?_ ⟨_, .tail _ (.tail _ (.head _)), Nat.le_refl _⟩ (fun q hq => hmore q hq) rfl
    · rcases List.mem_append.mp hq with hq | hq
      · simp only [List.mem_cons, List.not_mem_nil, or_false] at hq
        rcases hq with rfl | rfl | rfl | rfl | rfl
        · exact N' _ (.head _)
        · exact N' _ (.tail _ (.head _))
        · exact N' _ (.tail _ (.tail _ (.head _)))
        · exact N' _ (.tail _ (.tail _ (.tail _ kx)))
        · exact N' _ (.tail _ (.tail _ (.tail _ hd)))
      · refine N' _ (.tail _ (.tail _ (.tail _ (kp _ (.tail _ (.tail _ (.tail _ hq))) ?_))))
        have := hmore q hq
        simp only [List.map_cons, List.map_nil, List.mem_singleton]
        exact fun e => by rw [e] at this; exact Nat.lt_irrefl _ this
    · refine ⟨⟨es2, n2, .head _, .tail _ (.head _), nes.par, nes.chg, Nat.le_trans nes.len (by decide), .inr ⟨rfl, l, nl2, [⟨x, dx, es', n', p ++ v⟩], nes.chd, .tail _ (.tail _ (.head _)), ltN' (by dsimp only; omega), Nat.lt_succ_self _, neN (by dsimp only; omega), by simp, fun lf hlf => ?_, rfl⟩⟩, ⟨ltN' (by dsimp only; omega), ltN' (by dsimp only; omega)⟩, ⟨ltN' (by dsimp only; omega), ltN' (by dsimp only; omega)⟩, neN (by dsimp only; omega)⟩
      rw [List.mem_singleton.mp hlf]
      refine ⟨.tail _ (.tail _ (.tail _ (.head _))), .tail _ (.tail _ (.tail _ (.tail _ (.head _)))), ⟨p, v, tp, tv, (hp.other (by decide)).trans ep, (hp.other (by decide)).trans ev, rfl⟩, hpv, Nat.le_trans hp.len (Nat.le_trans (Nat.succ_le_succ llen) (by decide)), ⟨ltN' (by dsimp only; omega), ltN' (by dsimp only; omega), neN (by dsimp only; omega)⟩, ⟨ltN' (by dsimp only; omega), ltN' (by dsimp only; omega), neN (by dsimp only; omega)⟩⟩
end
section
variable {w : World} {A₀ : Around} {s : Shared} {L a : Addr} {h₀ base : Heap} {m mg mb : Str → Option Value} {mean : ExcName → Option Value} {loose : List Str}
  {dp un : Nat} {gd : Option (List Code)} {cn : Str} {cs : Scope} {ccd : Value} {cl : List (Str × Addr)} {outer : List Env} {E : Value → Shared → Prop}
end
end TX_LawN
-- LawM
section TX_LawM
/-- the tree is built; new things none of it -/
structure Built (ns ks : List Sm) (rst : Sm) (t : Mid) (news : List (Addr × Obj)) : Prop where
  okn : ∀ sm ∈ ns, SmOk (Gl news) sm none
  okk : ∀ sm ∈ ks, SmOk (Gl news) sm (some (.ref t.am))
  okr : SmOk (Gl news) rst (some (.ref t.at_))
  rx : rst.x = t.rest
  mid : MidOk (Gl news) t (ks.map Sm.x) none 20
  dj : (ns ++ ks ++ [rst]).Pairwise Disj
  ap : ∀ sm ∈ ns ++ ks ++ [rst], Apart sm t
  nr : ∀ sm ∈ ns ++ ks ++ [rst], sm.x ≠ t.at_
theorem rest_state {ns ks : List Sm} {rst : Sm} {rest₂ led more : List (Addr × Obj)} (hsub : ∀ p ∈ rest₂, p ∈ more) (hok : ∀ sm ∈ ns ++ ks, SmOk (Gl rest₂) sm none ∧ ∃ p ∈ rest₂, @LE.le Nat _ sm.hi (p.1 + 1)) (hdj : (ns ++ ks).Pairwise Disj)
    (okr : SmOk (Gl led) rst none) (tr : ∃ p ∈ led, @LE.le Nat _ rst.hi (p.1 + 1)) (hlo : ∀ q ∈ more, q.1 < rst.lo) : (∀ sm ∈ ns ++ ks ++ [rst], SmOk (Gl (led ++ more)) sm none ∧ ∃ p ∈ led ++ more, @LE.le Nat _ sm.hi (p.1 + 1)) ∧ (ns ++ ks ++ [rst]).Pairwise Disj := by
  refine ⟨fun sm h => ?_, List.pairwise_append.mpr ⟨hdj, by simp, fun a ha b hb => ?_⟩⟩
  · rcases List.mem_append.mp h with h | h
    · obtain ⟨o, p, hp, q⟩ := hok sm h
      exact ⟨o.mono fun _ _ hm => List.mem_append_right _ (hsub _ hm), p, List.mem_append_right _ (hsub _ hp), q⟩
    · rw [List.mem_singleton.mp h]
      obtain ⟨p, hp, q⟩ := tr
      exact ⟨okr.mono fun _ _ hm => List.mem_append_left _ hm, p, List.mem_append_left _ hp, q⟩
  · rw [List.mem_singleton.mp hb]
    obtain ⟨_, p, hp, q⟩ := hok a ha
    exact .inl (Nat.le_trans q (hlo p (hsub p hp)))
theorem offD {news : List (Addr × Obj)} {D : Addr} {vs : List Value} {n : Nat} (fn : ∀ a o o', (a, o) ∈ news → (a, o') ∈ news → o = o') (mD : (D, listOf vs.toArray n) ∈ news) {a : Addr} {o : Obj} (h : (a, o) ∈ news) (hd : o.data ≠ (listOf vs.toArray n).data) : (a, o) ∈ Off [D] news :=
  mem_off.mpr ⟨h, fun hm => by
    have e : a = D := List.mem_singleton.mp hm
    rw [e] at h
    exact hd (congrArg Obj.data (fn _ _ _ h mD))⟩
theorem offD2 {news : List (Addr × Obj)} {D a : Addr} {o : Obj} (h : (a, o) ∈ news) (hd : a ≠ D) : (a, o) ∈ Off [D] news := mem_off.mpr ⟨h, fun hm => hd (List.mem_singleton.mp hm)⟩
/-- one list of the ledger is turned -/
theorem Built.upd {ns ks : List Sm} {rst : Sm} {t : Mid} {news news' : List (Addr × Obj)} {D : Addr} {vs : List Value} {n : Nat} (bt : Built ns ks rst t news) (fn : ∀ a o o', (a, o) ∈ news → (a, o') ∈ news → o = o') (mD : (D, listOf vs.toArray n) ∈ news)
    (hlo : ∀ sm ∈ ns ++ ks ++ [rst], @LT.lt Nat _ D sm.lo) (h1 : D ≠ t.lm) (h2 : D ≠ t.lt) (k : ∀ p ∈ news, p.1 ≠ D → p ∈ news') : Built ns ks rst t news' := by
  have sms : ∀ sm ∈ ns ++ ks ++ [rst], ∀ par, SmOk (Gl news) sm par → SmOk (Gl news') sm par := fun sm h par o => o.keeps fun b ob b1 _ hm => k _ hm (Nat.ne_of_gt (Nat.lt_of_lt_of_le (hlo sm h) b1))
  have kc : ∀ a o, (a, o) ∈ news → o.data ≠ (listOf vs.toArray n).data → (a, o) ∈ news' := fun a o hm hd => k _ hm fun e => by
    have e' : a = D := e
    rw [e'] at hm
    exact hd (congrArg Obj.data (fn _ _ _ hm mD))
  refine ⟨fun sm h => sms sm (List.mem_append_left _ (List.mem_append_left _ h)) _ (bt.okn sm h), fun sm h => sms sm (List.mem_append_left _ (List.mem_append_right _ h)) _ (bt.okk sm h), sms rst (List.mem_append_right _ (.head _)) _ bt.okr, bt.rx, ?_, bt.dj, bt.ap, bt.nr⟩
  obtain ⟨⟨mes, n1, pes, n2, nl, nt, m1, m2, m3, m4, m5, m6, m7⟩, hne⟩ := bt.mid
  exact ⟨⟨mes, n1, pes, n2, nl, nt, kc _ _ m1 (fun e => nomatch e), kc _ _ m2 (fun e => nomatch e), k _ m3 (Ne.symm h1), kc _ _ m4 (fun e => nomatch e), kc _ _ m5 (fun e => nomatch e), k _ m6 (Ne.symm h2), m7⟩, hne⟩
section
variable {w : World} {A₀ : Around} {s : Shared} {L a : Addr} {h₀ base : Heap} {m mg mb : Str → Option Value} {mean : ExcName → Option Value} {loose : List Str}
  {dp un : Nat} {gd : Option (List Code)} {cn : Str} {cs : Scope} {ccd : Value} {cl : List (Str × Addr)} {outer : List Env} {E : Value → Shared → Prop}
theorem mid_made {Q : Value → Shared → Prop} {lc : Addr} {k : Int} {ns ks : List Sm} {rst : Sm} {nl : Nat} {u : Tok} {news : List (Addr × Obj)}
  (B : Below A₀ base outer h₀) (F : Fr h₀ L s.heap m) (X : (Mine.hd.heap_39 w.params).In h₀) (T : Top Mine.hd.view_39 loose mean mg mb h₀) (hk : cs.kind = .function) (N : News h₀ L s.heap news)
  (hlc : (lc, listOf (ks.map fun q : Sm => Value.ref q.x).toArray nl) ∈ news) (hall : ∀ sm ∈ ns ++ ks ++ [rst], SmOk (Gl news) sm none ∧ ∃ p ∈ news, @LE.le Nat _ sm.hi (p.1 + 1)) (hdj : (ns ++ ks ++ [rst]).Pairwise Disj) (hlen : ks.length ≤ 10) (hk0 : 256 ≤ k) (hdp : dp + 20 < recursionLimit) (hun : un + 200 < cLine)
  (ret : ∀ am dm lm es n nl' news' h' tk', (∀ sm ∈ ns ++ ks ++ [rst], @LE.le Nat _ sm.hi dm) → (∀ p ∈ news', p.1 < dm) → dm < am → am < lm → Fr h₀ L h' m → News h₀ L h' ((am, instObj 247 dm) :: (dm, dictOf es n) :: (lm, listOf ((ks.map Sm.x).map Value.ref).toArray nl') :: news') → NodeEs es lm → (∀ p ∈ news, (∀ es n, p.2 ≠ dictOf es n) → p ∈ news') →
    (∀ sm ∈ ks, SmOk (Gl news') sm (some (.ref am))) → (∀ sm ∈ ns ++ [rst], SmOk (Gl news') sm none) → Q (.ref am) {s with heap := h', toks := tk'})
  : wpAny (model pw w) (ktrTop dp un gd cn cs L a ccd cl outer) (call (.ref 247) [.int k u, .ref lc]) Q E s := by
  have kin : ∀ sm ∈ ks, sm ∈ ns ++ ks ++ [rst] := fun sm h => List.mem_append_left _ (List.mem_append_right _ h)
  have fn := news_fn N
  refine node_sms B F X T hk N hlc (fun sm h => (hall sm (kin sm h)).1) ((List.pairwise_append.mp (List.pairwise_append.mp hdj).1).2.1) hlen hk0 hdp hun fun am dm lm es n nl' news' h' tk' hlt h1 h2 F' N' nes kp adr okk => ?_
  refine ret am dm lm es n nl' news' h' tk' (fun sm h => ?_) (fun p hp => ?_) h1 h2 F' N' nes (fun p hp hd => kp p hp fun hm => ?_) okk (fun sm h => ?_)
  · obtain ⟨_, p, hp, q⟩ := hall sm h
    exact Nat.le_trans q (hlt p hp)
  · obtain ⟨q, hq, e⟩ := List.mem_map.mp (adr p hp)
    have := hlt q hq
    rw [show q.1 = p.1 from e] at this
    exact this
  · obtain ⟨sm, hsm, e⟩ := List.mem_map.mp hm
    obtain ⟨_, _, _, rd, _⟩ := (hall sm (kin sm hsm)).1.ex
    obtain ⟨pa, po⟩ := p
    have e' : sm.d = pa := e
    rw [e'] at rd
    exact hd _ _ (fn _ _ _ hp rd)
  · have hin : sm ∈ ns ++ ks ++ [rst] := by
      rcases List.mem_append.mp h with h | h
      · exact List.mem_append_left _ (List.mem_append_left _ h)
      · exact List.mem_append_right _ h
    refine keep_other kp (hall sm hin).1 fun c hc b b1 b2 e => ?_
    obtain ⟨q, hq, e2⟩ := List.mem_map.mp hc
    have rq := (hall q (kin q hq)).1.rd
    have dj : Disj q sm := by
      rcases List.mem_append.mp h with h | h
      · exact ((List.pairwise_append.mp (List.pairwise_append.mp hdj).1).2.2 sm h q hq).symm
      · exact (List.pairwise_append.mp hdj).2.2 q (List.mem_append_right _ hq) sm h
    exact dj.ne rq.1 rq.2 b1 b2 (e2.trans e.symm)
theorem top_made {Q : Value → Shared → Prop} {lc am dm lm : Addr} {k : Int} {ns ks : List Sm} {rst : Sm} {mes : List DictEntry} {n nl nlm : Nat} {u : Tok} {nw : List (Addr × Obj)}
  (B : Below A₀ base outer h₀) (F : Fr h₀ L s.heap m) (X : (Mine.hd.heap_39 w.params).In h₀) (T : Top Mine.hd.view_39 loose mean mg mb h₀) (hk : cs.kind = .function)
  (N : News h₀ L s.heap ((lc, listOf [Value.ref rst.x, Value.ref am].toArray nl) :: (am, instObj 247 dm) :: (dm, dictOf mes n) :: (lm, listOf ((ks.map Sm.x).map Value.ref).toArray nlm) :: nw)) (nes : NodeEs mes lm)
  (hhi : ∀ sm ∈ ns ++ ks ++ [rst], @LE.le Nat _ sm.hi dm) (hnw : ∀ p ∈ nw, p.1 < dm) (h1 : dm < am) (h2 : am < lm) (okk : ∀ sm ∈ ks, SmOk (Gl nw) sm (some (.ref am))) (okn : ∀ sm ∈ ns ++ [rst], SmOk (Gl nw) sm none) (hdj : (ns ++ ks ++ [rst]).Pairwise Disj)
  (hk0 : 256 ≤ k) (hdp : dp + 20 < recursionLimit) (hun : un + 200 < cLine)
  (ret : ∀ t news' h' tk', t.am = am → Fr h₀ L h' m → News h₀ L h' news' → Built ns ks rst t news' → (∀ p ∈ nw, (∀ es n, p.2 ≠ dictOf es n) → p ∈ news' ∧ p.1 ≠ t.lm ∧ p.1 ≠ t.lt) → (∀ p ∈ nw, p.1 ∈ news'.map (·.1)) → Q (.ref t.at_) {s with heap := h', toks := tk'})
  : wpAny (model pw w) (ktrTop dp un gd cn cs L a ccd cl outer) (call (.ref 247) [.int k u, .ref lc]) Q E s := by
  have okr := okn rst (List.mem_append_right _ (.head _))
  obtain ⟨res, rn, r1, r2, r3, r4, r5, _⟩ := okr.ex
  have rd := okr.rd
  have rhi : @LE.le Nat _ rst.hi dm := hhi rst (List.mem_append_right _ (.head _))
  have rne : rst.d ≠ dm := Nat.ne_of_lt (Nat.lt_of_lt_of_le rd.2 rhi)
  have fn := news_fn N
  refine node_led (kids := [⟨rst.x, rst.C, rst.d, res, rn⟩, ⟨am, 247, dm, mes, n⟩]) (nl := nl) B F X T hk N (.head _) (fun k hk => ?_) (by simpa using rne) (by simp) hk0 hdp hun fun at_ dt lt pes n4 nl4 nw4 h' tk' hlt g1 g2 F' N' nes4 kp adr hput => ?_
  · rcases List.mem_cons.mp hk with rfl | hk
    · exact ⟨.tail _ (.tail _ (.tail _ (.tail _ r1))), .tail _ (.tail _ (.tail _ (.tail _ r2))), okr.cls, r3, Nat.le_trans r5 (by simp)⟩
    · rw [List.mem_singleton.mp hk]
      exact ⟨.tail _ (.head _), .tail _ (.tail _ (.head _)), .inl rfl, nes.par, Nat.le_trans nes.len (by decide)⟩
  have fn' := news_fn N'
  have kpn : ∀ p ∈ nw, p.1 ≠ rst.d → p ∈ nw4 := fun p hp hne => kp p (.tail _ (.tail _ (.tail _ (.tail _ hp)))) (by
    have := Nat.ne_of_lt (hnw p hp)
    simp only [List.map_cons, List.map_nil, List.mem_cons, List.not_mem_nil, or_false, not_or]
    exact ⟨hne, this⟩)
  have amne : am ≠ dm := Nat.ne_of_gt h1
  have lmne : lm ≠ dm := Nat.ne_of_gt (Nat.lt_trans h1 h2)
  have rlt : ∀ b, rst.lo ≤ b → b < rst.hi → b < dm := fun b _ h => Nat.lt_of_lt_of_le h rhi
  have kam : (am, instObj 247 dm) ∈ nw4 := kp _ (.tail _ (.head _)) (by
    simp only [List.map_cons, List.map_nil, List.mem_cons, List.not_mem_nil, or_false, not_or]
    exact ⟨(Nat.ne_of_lt (Nat.lt_trans (rlt _ rd.1 rd.2) h1)).symm, amne⟩)
  have klm : (lm, listOf ((ks.map Sm.x).map Value.ref).toArray nlm) ∈ nw4 := kp _ (.tail _ (.tail _ (.tail _ (.head _)))) (by
    simp only [List.map_cons, List.map_nil, List.mem_cons, List.not_mem_nil, or_false, not_or]
    exact ⟨(Nat.ne_of_lt (Nat.lt_trans (rlt _ rd.1 rd.2) (Nat.lt_trans h1 h2))).symm, lmne⟩)
  obtain ⟨res', rn', hpr, hdr⟩ := hput _ (.head _)
  obtain ⟨mes', mn', hpm, hdm⟩ := hput _ (.tail _ (.head _))
  have ldt : lm < dt := hlt _ (.tail _ (.tail _ (.tail _ (.head _))))
  have up4 : ∀ p ∈ nw4, p ∈ (at_, instObj 247 dt) :: (dt, dictOf pes n4) :: (lt, listOf [Value.ref rst.x, Value.ref am].toArray nl4) :: nw4 := fun p hp => .tail _ (.tail _ (.tail _ hp))
  have sms : ∀ sm ∈ ns ++ ks, ∀ par, SmOk (Gl nw) sm par → SmOk (Gl ((at_, instObj 247 dt) :: (dt, dictOf pes n4) :: (lt, listOf [Value.ref rst.x, Value.ref am].toArray nl4) :: nw4)) sm par := fun sm hsm par o => o.keeps fun b ob b1 b2 hm => up4 _ (kpn _ hm fun e => by
    have dj := (List.pairwise_append.mp hdj).2.2 sm hsm rst (.head _)
    exact dj.ne b1 b2 rd.1 rd.2 e)
  refine ret ⟨am, dm, lm, at_, dt, lt, rst.x⟩ _ h' tk' rfl F' N' ⟨fun sm h => sms sm (List.mem_append_left _ h) _ (okn sm (List.mem_append_left _ h)), fun sm h => sms sm (List.mem_append_right _ h) _ (okk sm h), ?_, rfl, ?_, hdj, fun sm h => ?_, fun sm h => ?_⟩ (fun p hp hd => ?_) (fun p hp => ?_)
  · refine okr.put (fun b o b1 b2 hb hm => up4 _ (kpn _ hm hb)) fun es0 n0 h0 => ?_
    have q := fn _ _ _ (.tail _ (.tail _ (.tail _ (.tail _ h0)))) (.tail _ (.tail _ (.tail _ (.tail _ r2))))
    have q2 : es0 = res := by
      have z := congrArg Obj.data q
      injection z with z1 z2
      have := congrArg Array.toList z1
      simpa using this
    subst q2
    exact ⟨res', rn', hpr, up4 _ hdr⟩
  · exact ⟨⟨mes', mn', pes, n4, nlm, nl4, up4 _ kam, up4 _ hdm, up4 _ klm, .head _, .tail _ (.head _), .tail _ (.tail _ (.head _)), Nat.le_trans hpm.len (Nat.le_trans (Nat.succ_le_succ nes.len) (by decide)), Nat.le_trans nes4.len (by decide),
      (hpm.other (by decide)).trans nes.chd, (hpm.other (by decide)).trans nes.ins, (hpm.other (by decide)).trans nes.cgd, hpm.self, (hpm.other (by decide)).trans nes.chg, nes4.chd, nes4.cgd, nes4.par, nes4.chg⟩, Nat.ne_of_lt (Nat.lt_trans (Nat.lt_trans h1 h2) ldt), Nat.ne_of_lt (Nat.lt_trans ldt (Nat.lt_trans g1 g2))⟩
  · have z := hhi sm h
    exact ⟨.inr z, .inr (Nat.le_trans z (Nat.le_of_lt (Nat.lt_trans h1 h2))), .inr (Nat.le_trans z (Nat.le_of_lt (Nat.lt_trans (Nat.lt_trans h1 h2) ldt)))⟩
  · have z := hhi sm h
    have rx : sm.x < sm.hi := by
      rcases List.mem_append.mp h with h | h
      · rcases List.mem_append.mp h with h | h
        · exact (okn sm (List.mem_append_left _ h)).rx.2
        · exact (okk sm h).rx.2
      · rw [List.mem_singleton.mp h]; exact okr.rx.2
    exact Nat.ne_of_lt (Nat.lt_trans (Nat.lt_of_lt_of_le rx z) (Nat.lt_trans (Nat.lt_trans h1 h2) (Nat.lt_trans ldt g1)))
  · refine ⟨up4 _ (kpn _ hp fun e => ?_), Nat.ne_of_lt (Nat.lt_trans (hnw p hp) (Nat.lt_trans h1 h2)), Nat.ne_of_lt (Nat.lt_trans (hnw p hp) (Nat.lt_trans (Nat.lt_trans h1 h2) (Nat.lt_trans ldt (Nat.lt_trans g1 g2))))⟩
    obtain ⟨pa, po⟩ := p
    have e' : pa = rst.d := e
    rw [e'] at hp
    exact hd _ _ (fn _ _ _ (.tail _ (.tail _ (.tail _ (.tail _ hp)))) (.tail _ (.tail _ (.tail _ (.tail _ r2)))))
  · by_cases e : p.1 = rst.d
    · exact List.mem_map.mpr ⟨_, up4 _ hdr, e.symm⟩
    · exact List.mem_map.mpr ⟨_, up4 _ (kpn p hp e), rfl⟩
end
section
variable {prog : Program} {w : World} {A : Around} {E : Value → Shared → Prop} {s : Shared} {h₀ : Heap} {L b : Addr} {m : Str → Option Value} {news : List (Addr × Obj)} {xs : List Addr} {n : Nat} {Q : Value → Shared → Prop} {value slice : PySem.Expr}
theorem copy_refs (F : Fr h₀ L s.heap m) (N : News h₀ L s.heap news) (hb : (b, listOf (xs.map Value.ref).toArray n) ∈ news) (hx : xs.length ≤ 100)
    (h : ∀ D c h', Fr h₀ L h' m → News h₀ L h' ((D, listOf (xs.map Value.ref).toArray c) :: news) → (∀ q ∈ news, q.1 < D) → Q (.ref D) { s with heap := h' }) : wpAny (model prog w) A (call (.type "list") [.ref b]) Q E s :=
  kup_listOf F N hb rfl h (by simp only [List.length_map, sizeLine_eq]; omega)
theorem item_ref {k : Int} {u : Tok} (hl : s.heap.IsList b (xs.map Value.ref).toArray) (h0 : 0 ≤ k) (h1 : k < (xs.length : Int)) (hx : xs.length ≤ 100) (h : ∀ x, xs[k.toNat]? = some x → Q (.ref x) s)
    (ht : ∀ r, letTemporaryGo value (.ref b) r = pure ()) (hs : subscripted slice false (.ref b) (.int k u) = operate [.int k u, .ref b] (getItem (.ref b) (.int k u))) : True := trivial
end
section
variable {w : World} {A₀ : Around} {s : Shared} {L a : Addr} {h₀ base : Heap} {m mg mb : Str → Option Value} {mean : ExcName → Option Value} {loose : List Str}
  {dp un : Nat} {gd : Option (List Code)} {cn : Str} {cs : Scope} {ccd : Value} {cl : List (Str × Addr)} {outer : List Env} {E : Value → Shared → Prop}
end
end TX_LawM
-- LawR
section TX_LawR
noncomputable def bodyAt (w : World) (f : Addr) : List Stmt := match (Mine.hd.heap_39 w.params).lookup f with
  | some ⟨_, _, .func fd, _⟩ => (match fd.body with | .stmts b => b | _ => [])
  | _ => []
noncomputable def scopeAt (w : World) (f : Addr) : Scope := match (Mine.hd.heap_39 w.params).lookup f with
  | some ⟨_, _, .func fd, _⟩ => fd.scope
  | _ => ⟨.function, [], false, false, []⟩
noncomputable abbrev lawEnv (w : World) (L a : Addr) (ccd : Value) : Env := envOfC (Str.ofString "law") (scopeAt w 367) L a ccd
/-- a statement that is not looked into -/
structure Box (P : Prop) : Prop where
  go : P
theorem execs_consB {prog : Program} {w : World} {A : Around} {x r : List Stmt} {s : Stmt} {env : Env} {Q : Flow → Shared → Prop} {E : Value → Shared → Prop} {st : Shared} (e : x = s :: r) (h : Box (wpAny (model prog w) A (execs (s :: r) env) Q E st)) : Box (wpAny (model prog w) A (execs x env) Q E st) := e ▸ h
theorem execs_cons {prog : Program} {w : World} {A : Around} {x r : List Stmt} {s : Stmt} {env : Env} {Q : Flow → Shared → Prop} {E : Value → Shared → Prop} {st : Shared} (e : x = s :: r) (h : wpAny (model prog w) A (execs (s :: r) env) Q E st) : wpAny (model prog w) A (execs x env) Q E st := e ▸ h
theorem scope_eq {x : Scope} {k n g c m} {P : Prop} (e : x = ⟨k, n, g, c, m⟩) (h : x = ⟨k, n, g, c, m⟩ → P) : P := h e
theorem fr_view {h₀ h : Heap} {L : Addr} {m : Str → Option Value} (x : Str) {v : Value} (F : Fr h₀ L h m) (e : m x = some v) : Fr h₀ L h (fun y => if y = x then some v else m y) := by
  have : (fun y => if y = x then some v else m y) = m := funext fun y => by
    by_cases q : y = x
    · rw [if_pos q, q, e]
    · rw [if_neg q]
  rw [this]; exact F
section
variable {w : World} {A₀ : Around} {s : Shared} {L a : Addr} {h₀ base : Heap} {m mg mb : Str → Option Value} {mean : ExcName → Option Value} {loose : List Str}
  {dp un : Nat} {gd : Option (List Code)} {cn : Str} {cs : Scope} {ccd : Value} {cl : List (Str × Addr)} {outer : List Env} {E : Value → Shared → Prop}
theorem same_news {Q : Value → Shared → Prop} {la lb : Addr} (xs : List Addr) {n n2 : Nat} {news : List (Addr × Obj)}
  (B : Below A₀ base outer h₀) (F : Fr h₀ L s.heap m) (X : (Mine.hd.heap_39 w.params).In h₀) (T : Top Mine.hd.view_39 loose mean mg mb h₀) (hk : cs.kind = .function)
  (N : News h₀ L s.heap news) (hl : (la, listOf (xs.map Value.ref).toArray n) ∈ news) (hc : (lb, listOf (xs.map Value.ref).toArray n2) ∈ news) (hxs : xs.length ≤ 40)
  (hdp : dp + 40 < recursionLimit) (hun : un + 400 < cLine)
  (ret : ∀ h' tk', Fr h₀ L h' m → News h₀ L h' news → Q (.bool true) {s with heap := h', toks := tk'})
  : wpAny (model pw w) (ktrTop dp un gd cn cs L a ccd cl outer) (call (.ref 355) [.ref la, .ref lb]) Q E s :=
  same_spec B F X T hk (N _ hl).1 (N _ hl).2.2 (N _ hl).2.1 hxs (N _ hc).1 (N _ hc).2.2 (N _ hc).2.1 hdp hun fun h' tk' ex => ret h' tk' (ex.fr F (fun h => nomatch h) (fun _ h => nomatch h)) (ex.news N (fun _ _ h => nomatch h))
theorem str_news {Q : Value → Shared → Prop} {x : Addr} {t : Str} {D U : Nat} {led news : List (Addr × Obj)}
  (B : Below A₀ base outer h₀) (F : Fr h₀ L s.heap m) (X : (Mine.hd.heap_39 w.params).In h₀) (T : Top Mine.hd.view_39 loose mean mg mb h₀) (hk : cs.kind = .function)
  (N : News h₀ L s.heap news) (sok : StrOk w mg mb mean loose led x t D U) (hsub : ∀ p ∈ led, p ∈ news) (hdp : dp + D < recursionLimit) (hun : un + U < cLine)
  (ret : ∀ h' tk tk', Fr h₀ L h' m → News h₀ L h' news → Q (.str t tk) {s with heap := h', toks := tk'})
  : wpAny (model pw w) (ktrTop dp un gd cn cs L a ccd cl outer) (call (.type "str") [.ref x]) Q E s :=
  sok _ _ _ _ _ _ _ _ _ _ _ _ _ _ _ _ _ B F X T hk (fun p hp => N _ (hsub p hp)) hdp hun fun h' tk tk' ex => ret h' tk tk' (ex.fr F (fun h => nomatch h) (fun _ h => nomatch h)) (ex.news N (fun _ _ h => nomatch h))
end
section
variable {w : World} {A : Around} {s : Shared} {L x C d : Addr} {h₀ : Heap} {m : Str → Option Value} {es : List DictEntry} {n : Nat} {ox : Obj} {E : Value → Shared → Prop}
theorem get_chg_none {expr : Bool} {Q : Value → Shared → Prop} (F : Fr h₀ L s.heap m) (X : (Mine.hd.heap_39 w.params).In h₀) (I : InstAt s.heap x ox C (some (dictOf es n))) (hC : C = 247 ∨ C = 327) (hl : getL "was_changed" es = some none) (h : Q (.bool false) { s with toks := s.toks + 1 }) :
    wpAny (model pw w) A (getAttr (.ref x) "was_changed" expr) Q E s := by
  rcases hC with rfl | rfl
  · k_dflt (refine' get_cls F X I ?k4 ?k5 ?k6 ?k7 ?k8 ?k9 hl h; (case k4 => k_is); (case k5 => k_is); (case k6 => k_is); (case k7 => k_is); (case k8 => k_handed); (case k9 => decide +kernel))
  · k_dflt (refine' get_cls F X I ?k4 ?k5 ?k6 ?k7 ?k8 ?k9 hl h; (case k4 => k_is); (case k5 => k_is); (case k6 => k_is); (case k7 => k_is); (case k8 => k_handed); (case k9 => decide +kernel))
end
section
variable {M : Model} {A : Around} {E : Value → Shared → Prop} {s : Shared} {h₀ : Heap} {L x y C d C' d' : Addr} {m : Str → Option Value} {news : List (Addr × Obj)} {Q : Value → Shared → Prop}
theorem is_news (N : News h₀ L s.heap news) (ha : (x, instObj C d) ∈ news) (hb : (y, instObj C' d') ∈ news) (hxy : x ≠ y) (hq : Q (.bool false) s) : wpAny M A (compareOp .Is (.ref x) (.ref y)) Q E s :=
  kto_is (N _ ha).1 (N _ hb).1 hxy (fun e => nomatch e) hq
theorem isnot_news (N : News h₀ L s.heap news) (ha : (x, instObj C d) ∈ news) (hb : (y, instObj C' d') ∈ news) (hxy : x ≠ y) (hq : Q (.bool true) s) : wpAny M A (compareOp .IsNot (.ref x) (.ref y)) Q E s :=
  kto_isnot (N _ ha).1 (N _ hb).1 hxy (fun e => nomatch e) hq
end
def viewL : List (Str × Value) → (Str → Option Value) → Str → Option Value
  | [], m => m
  | p :: r, m => fun y => if y = p.1 then some p.2 else viewL r m y
def AllView (m : Str → Option Value) : List (Str × Value) → Prop
  | [] => True
  | p :: r => m p.1 = some p.2 ∧ AllView m r
theorem viewL_eq {m : Str → Option Value} : ∀ (l : List (Str × Value)), AllView m l → viewL l m = m
  | [], _ => rfl
  | p :: r, h => funext fun y => by
    show (if y = p.1 then some p.2 else viewL r m y) = m y
    rw [viewL_eq r h.2]
    by_cases q : y = p.1
    · rw [if_pos q, q, h.1]
    · rw [if_neg q]
theorem fr_viewL {h₀ h : Heap} {L : Addr} {m : Str → Option Value} {l : List (Str × Value)} (hV : viewL l m = m) (F : Fr h₀ L h m) : Fr h₀ L h (viewL l m) := hV.symm ▸ F
theorem fr_back {h₀ h : Heap} {L : Addr} {m : Str → Option Value} {l : List (Str × Value)} (hV : viewL l m = m) (F : Fr h₀ L h (viewL l m)) : Fr h₀ L h m := hV ▸ F
/-- what the call of InsertNodesBefore / InsertNodesAfter does in the law's try -/
def PutOk (w : World) (h₀ : Heap) (L a : Addr) (ccd : Value) (b : Bool) (hd tx : Addr) (g : Bool) (news : List (Addr × Obj)) (Post : List (Addr × Obj) → Prop) : Prop :=
  ∀ (s : Shared) (m : Str → Option Value) (Q E : Value → Shared → Prop), Fr h₀ L s.heap m → News h₀ L s.heap news →
    (g = true → ∀ news' h' tk', Fr h₀ L h' m → News h₀ L h' news' → Post news' → Q .none {s with heap := h', toks := tk'}) →
    (g = false → ∀ e news' h' tk', RaisedC h₀ [lawEnv w L a ccd] e (.type "RuntimeError") news' h' → (∃ g, Fr h₀ L g m ∧ g.UpToSlots h') → Post news' → E (.ref e) {s with heap := h', toks := tk'}) →
    wpAny (model pw w) (callerA.deeper (lawEnv w L a ccd)) (call (.ref (if b = true then 35 else 28)) [.ref hd, .ref tx]) Q E s
section
variable {prog : Program} {w : World} {A : Around} {E : Value → Shared → Prop} {s : Shared} {h₀ h : Heap} {outer : List Env} {L e : Addr} {m : Str → Option Value} {env : Env}
  {b₀ : Stmt} {suite : List Stmt} {pos np : Pos} {rest : List ExceptHandler} {Q : Flow → Shared → Prop} {news : List (Addr × Obj)} {x : Str} {X T' : String}
/-- an exception that is caught by its class, in a frame with cells -/
theorem caughtX (hA : A.frames = some (env :: outer)) (hf : env.frame = some L) (F : Fr h₀ L h m) (hsm : h.UpToSlots s.heap) (R : RaisedC h₀ (env :: outer) e (.type X) news s.heap)
    (hname : ∀ (h' : Heap) (E' : Value → Shared → Prop) (Q' : Value → Shared → Prop), Fr h₀ L h' m → Q' (.type T') {s with heap := h'} → wpAny (model prog w) (A.mark (some (.ref e))) (eval (.Name x np) env) Q' E' {s with heap := h'})
    (hexc : isSubtype (.type T') (.type "BaseException") = pure true) (hnt : isSubtype (.type ((Manifest.find? T').elim "type" fun y => y.metatype)) (.type "tuple") = pure false) (hsub : isSubtype (.type X) (.type T') = pure true)
    (k : ∀ h' oe vs, Fr h₀ L h' m → News h₀ L h' ((e, oe) :: news) → oe.data = .fields vs → vs[2]? = some .none → wpAny (model prog w) (A.mark (some (.ref e))) (execs (b₀ :: suite) env) Q (fun _ _ => False) {s with heap := h'}) :
    wpAny (model prog w) A (noteFrame (.ref e) env) (fun _ s₂ => wpAny (model prog w) A (setFlight (.ref e) none) (fun _ s₃ =>
        wpAny (model prog w) A (handleBy (.ref e) env (.ExceptHandler (some (.Name x np)) none (b₀ :: suite) pos :: rest)) Q E s₃) E s₂) E s := by
  obtain ⟨Bh, hB, hl, hfl⟩ := R
  have hLn : Bh.get? L = none := by
    obtain ⟨_, ⟨L', _, hf', hn', _⟩, _⟩ := hfl.ff
    rw [hf] at hf'
    cases hf'
    exact hn'
  refine note_next hA hf hfl fun h1 held1 up1 => land_C held1 fun h2 fly2 up2 => ?_
  have F2 : Fr h₀ L h2 m := F.of_stays (fly2.base hB).st (hsm.trans (up1.trans up2))
  obtain ⟨ob, hob, hobc⟩ := fly2.there
  refine wpAny_handleBy_builtin (X := X) (T := T') (b := true) hexc hnt hsub (hname h2 _ _ F2 ⟨rfl, ⟨ob, hob, hobc⟩, ?_⟩)
  refine land_C fly2 fun h3 fly3 up3 => ?_
  have F3 : Fr h₀ L h3 m := F.of_stays (fly3.base hB).st ((hsm.trans (up1.trans up2)).trans up3)
  obtain ⟨oe, vs, _, _, _, he, _, hd, _, h2', _⟩ := fly3.tr.ex
  refine wpAny_mono (k h3 oe vs F3 (fun q hq => ?_) hd h2') (fun _ _ y => y) fun _ _ y => y.elim
  rcases List.mem_cons.mp hq with rfl | hq
  · refine ⟨he, fun z => ?_, (fly3.base hB).nb⟩
    obtain ⟨oL, es, ep, hL, hLd, _⟩ := F3.ns
    have z' : e = L := z
    rw [z', hL] at he
    cases he
    rw [hLd] at hd
    cases hd
  refine ⟨fly3.st _ _ (hl q hq).1, fun z => ?_, (hl q hq).2⟩
  have := (hl q hq).1
  rw [z, hLn] at this
  cases this
end
section
variable {w : World} {A₀ : Around} {s : Shared} {L a : Addr} {h₀ base : Heap} {m mg mb : Str → Option Value} {mean : ExcName → Option Value} {loose : List Str}
  {dp un : Nat} {gd : Option (List Code)} {cn : Str} {cs : Scope} {ccd : Value} {cl : List (Str × Addr)} {outer : List Env} {E : Value → Shared → Prop}
end
end TX_LawR
-- Law21
section TX_Law21
local macro_rules | `(tactic| wtm_at "call ref") => `(tactic| (k_here; (with_reducible show wpAny _ _ (call (Value.ref 355) _) _ _ _); refine Stop.mk ?_))
local macro_rules | `(tactic| wtm_at "call type:str") => `(tactic| (k_here; refine Stop.mk ?_))
local macro_rules | `(tactic| wtm_at "call builtin:len") => `(tactic| (k_here; (with_reducible show wpAny _ _ (call (Value.builtin "len") [Value.ref _]) _ _ _); k_dflt (refine' len_refs ?k1 ?k2 ?_; (case k1 => kmk_list); (case k2 => ((try simp only [List.length_take, List.length_drop, List.length_append, List.length_cons, List.length_nil, List.length_reverse, List.length_map]); omega)); k_whole)))
local macro_rules | `(tactic| wtm_at "getAttr ref") => `(tactic| (k_here; (with_reducible show wpAny _ _ (getAttr (Value.ref _) (PySem.Str.ofString "was_changed") _) _ _ _); k_dflt (refine' get_chg_none ?k1 ?k2 ?k3 ?k4 ?k5 ?_; (case k1 => k_asm); (case k2 => k_asm); (case k3 => k_inst); (case k4 => first | assumption | exact .inl rfl); (case k5 => with_reducible assumption); k_whole)))
local macro_rules | `(tactic| wtm_at "getAttr ref") => `(tactic| (k_here; (with_reducible show wpAny _ _ (getAttr (Value.ref _) (PySem.Str.ofString "parent") _) _ _ _); k_dflt (first
  | (refine' get_par_none ?k1 ?k2 ?k3 ?k4 ?k5 ?_; (case k1 => k_asm); (case k2 => k_asm); (case k3 => k_inst); (case k4 => first | assumption | exact .inl rfl); (case k5 => with_reducible assumption); k_whole)
  | (refine' get_par_ref ?k1 ?k2 ?k3 ?k4 ?k5 ?_; (case k1 => k_asm); (case k2 => k_asm); (case k3 => k_inst); (case k4 => first | assumption | exact .inl rfl); (case k5 => with_reducible assumption); k_whole))))
section
variable {w : World} {A₀ : Around} {s : Shared} {L a : Addr} {h₀ base : Heap} {m mg mb : Str → Option Value} {mean : ExcName → Option Value} {loose : List Str}
  {dp un : Nat} {gd : Option (List Code)} {cn : Str} {cs : Scope} {ccd : Value} {cl : List (Str × Addr)} {outer : List Env} {E : Value → Shared → Prop}
set_option maxHeartbeats 4000000 in
theorem law21U {Q : Flow → Shared → Prop} {t : Mid} {rst : Sm} {news : List (Addr × Obj)} {css : List Addr}
  (B : Below callerA h₀ [] h₀) (F : Fr h₀ L s.heap m) (X : (Mine.hd.heap_39 w.params).In h₀) (T : Top Mine.hd.view_39 loose mean mg mb h₀)
  (N : News h₀ L s.heap news) (mid : MidOk (Gl news) t css none 60) (okr : SmOk (Gl news) rst (some (.ref t.at_)))
  (hdue : m "due" = some .none) (hkids : m "kids" = some .none) (hmid : m "middle" = some (.ref t.am)) (htop : m "top" = some (.ref t.at_)) (hrest : m "rest" = some (.ref rst.x)) (htgt : m "target" = some (.ref t.at_)) (hpar : m "parent" = some .none) (hhol : m "holder" = some .none)
  (ret : ∀ h' tk' m', Fr h₀ L h' m' → Q (.ret (.bool true)) {s with heap := h', toks := tk'})
  : Box (wpAny (model pw w) (callerA.deeper (lawEnv w L a ccd)) (execs ((bodyAt w 367).drop 21) (lawEnv w L a ccd)) Q E s) := by
  refine execs_consB (by with_unfolding_all rfl) ?_
  refine scope_eq (x := scopeAt w 367) (by with_unfolding_all rfl) fun e => ?_
  unfold lawEnv
  rw [e]
  clear e
  refine ⟨?_⟩
  have F1 := fr_view "due" (fr_view "kids" (fr_view "middle" (fr_view "top" (fr_view "rest" (fr_view "target" (fr_view "parent" (fr_view "holder" F hhol) hpar) htgt) hrest) htop) hmid) hkids) hdue
  clear F hdue hkids hmid htop hrest htgt hpar hhol
  obtain ⟨⟨mes, n, pes, n', nl, nt, m1, m2, m3, m4, m5, m6, m7, m8, m9, m10, m11, m12, m13, m14, m15, m16, m17⟩, hne⟩ := mid
  have okc := okr.cls
  obtain ⟨res, rn, r1, r2, r3, r4, r5, _⟩ := okr.ex
  clear okr m10 m11 m15
  try dsimp only
  repeat (first | (k_unfold; (try dsimp only)) | walk1 | (dsimp only; walk1))
  rename Fr _ _ _ _ => FZ
  exact ret _ _ _ FZ
set_option maxHeartbeats 4000000 in
theorem law21L {Q : Flow → Shared → Prop} {t : Mid} {rst tgt : Sm} {news : List (Addr × Obj)} {css ds kk : List Addr} {l K : Addr} {nd nk : Nat} {mv : Bool} 
  (B : Below callerA h₀ [] h₀) (F : Fr h₀ L s.heap m) (X : (Mine.hd.heap_39 w.params).In h₀) (T : Top Mine.hd.view_39 loose mean mg mb h₀)
  (N : News h₀ L s.heap news) (mid : MidOk (Gl news) t css (if mv = true then some (.bool true) else none) 60) (okr : SmOk (Gl news) rst (some (.ref t.at_)))
  (okt : SmOk (Gl news) tgt (some (.ref t.am))) (htt : tgt.x ≠ t.at_) (hl : (l, listOf (ds.map Value.ref).toArray nd) ∈ news) (hK : (K, listOf (kk.map Value.ref).toArray nk) ∈ news) (hds : ds.length ≤ 40) (hkk : kk.length ≤ 40) (hmv : mv = decide (kk.length < ds.length))
  (hdue : m "due" = some (.ref l)) (hkids : m "kids" = some (.ref K)) (hmid : m "middle" = some (.ref t.am)) (htop : m "top" = some (.ref t.at_)) (hrest : m "rest" = some (.ref rst.x)) (htgt : m "target" = some (.ref tgt.x)) (hpar : m "parent" = some (.ref t.am)) (hhol : m "holder" = some .none)
  (ret : ∀ h' tk' m', Fr h₀ L h' m' → Q (.ret (.bool true)) {s with heap := h', toks := tk'})
  : Box (wpAny (model pw w) (callerA.deeper (lawEnv w L a ccd)) (execs ((bodyAt w 367).drop 21) (lawEnv w L a ccd)) Q E s) := by
  refine execs_consB (by with_unfolding_all rfl) ?_
  refine scope_eq (x := scopeAt w 367) (by with_unfolding_all rfl) fun e => ?_
  unfold lawEnv
  rw [e]
  clear e
  refine ⟨?_⟩
  have F1 := fr_view "due" (fr_view "kids" (fr_view "middle" (fr_view "top" (fr_view "rest" (fr_view "target" (fr_view "parent" (fr_view "holder" F hhol) hpar) htgt) hrest) htop) hmid) hkids) hdue
  clear F hdue hkids hmid htop hrest htgt hpar hhol
  obtain ⟨⟨mes, n, pes, n', nl, nt, m1, m2, m3, m4, m5, m6, m7, m8, m9, m10, m11, m12, m13, m14, m15, m16, m17⟩, hne⟩ := mid
  have okc := okr.cls
  obtain ⟨res, rn, r1, r2, r3, r4, r5, _⟩ := okr.ex
  have okd := okt.cls
  obtain ⟨tes, tn, q1, q2, q3, q4, q5, _⟩ := okt.ex
  clear okr okt m10 m11 m15
  have hd : decide ((kk.length : Int) < (ds.length : Int)) = mv := by
    rw [hmv]
    exact decide_eq_decide.mpr (by omega)
  clear hmv
  cases mv with
  | false =>
    rw [if_neg (by decide)] at m13 m17
    try dsimp only
    repeat (first | (k_unfold; (try dsimp only)) | walk1 | (dsimp only; walk1))
    · rename Fr _ _ _ _ => FZ
      exact ret _ _ _ FZ
    · rename_i hx
      rw [hd] at hx
      exact absurd hx (by decide)
  | true =>
    rw [if_pos rfl] at m13 m17
    try dsimp only
    repeat (first | (k_unfold; (try dsimp only)) | walk1 | (dsimp only; walk1))
    · rename Fr _ _ _ _ => FZ
      exact ret _ _ _ FZ
    · rename_i hx
      rw [hd] at hx
      exact absurd hx (by decide)
set_option maxHeartbeats 4000000 in
theorem law21H {Q : Flow → Shared → Prop} {t : Mid} {rst tgt : Sm} {news : List (Addr × Obj)} {css ds kk : List Addr} {l K : Addr} {nd nk : Nat} {mv : Bool} {x0 H dH hl' : Addr} {hes : List DictEntry} {hn hn2 : Nat}
  (B : Below callerA h₀ [] h₀) (F : Fr h₀ L s.heap m) (X : (Mine.hd.heap_39 w.params).In h₀) (T : Top Mine.hd.view_39 loose mean mg mb h₀)
  (N : News h₀ L s.heap news) (mid : MidOk (Gl news) t css (if mv = true then some (.bool true) else none) 60) (okr : SmOk (Gl news) rst (some (.ref t.at_)))
  (okt : SmOk (Gl news) tgt (some (.ref t.am))) (htt : tgt.x ≠ t.at_) (hl : (l, listOf (ds.map Value.ref).toArray nd) ∈ news) (hK : (K, listOf (kk.map Value.ref).toArray nk) ∈ news) (hds : ds.length ≤ 40) (hkk : kk.length ≤ 40) (hmv : mv = decide (kk.length < ds.length))
  (hdue : m "due" = some (.ref l)) (hkids : m "kids" = some (.ref K)) (hmid : m "middle" = some (.ref t.am)) (htop : m "top" = some (.ref t.at_)) (hrest : m "rest" = some (.ref rst.x)) (htgt : m "target" = some (.ref tgt.x)) (hpar : m "parent" = some (.ref t.am)) (hhol : m "holder" = some (.ref H)) (htk : m "taken" = some (.ref x0))
  (g1 : (H, instObj 247 dH) ∈ news) (g2 : (dH, dictOf hes hn) ∈ news) (g3 : (hl', listOf [Value.ref x0].toArray hn2) ∈ news) (g4 : getL "children" hes = some (some (.ref hl'))) (g5 : getL "was_changed" hes = some none) (g6 : hes.length ≤ 60)
  (ret : ∀ h' tk' m', Fr h₀ L h' m' → Q (.ret (.bool true)) {s with heap := h', toks := tk'})
  : Box (wpAny (model pw w) (callerA.deeper (lawEnv w L a ccd)) (execs ((bodyAt w 367).drop 21) (lawEnv w L a ccd)) Q E s) := by
  refine execs_consB (by with_unfolding_all rfl) ?_
  refine scope_eq (x := scopeAt w 367) (by with_unfolding_all rfl) fun e => ?_
  unfold lawEnv
  rw [e]
  clear e
  refine ⟨?_⟩
  have F1 := fr_view "due" (fr_view "kids" (fr_view "middle" (fr_view "top" (fr_view "rest" (fr_view "target" (fr_view "parent" (fr_view "holder" (fr_view "taken" F htk) hhol) hpar) htgt) hrest) htop) hmid) hkids) hdue
  clear F hdue hkids hmid htop hrest htgt hpar hhol htk
  obtain ⟨⟨mes, n, pes, n', nl, nt, m1, m2, m3, m4, m5, m6, m7, m8, m9, m10, m11, m12, m13, m14, m15, m16, m17⟩, hne⟩ := mid
  have okc := okr.cls
  obtain ⟨res, rn, r1, r2, r3, r4, r5, _⟩ := okr.ex
  have okd := okt.cls
  obtain ⟨tes, tn, q1, q2, q3, q4, q5, _⟩ := okt.ex
  clear okr okt m10 m11 m15
  have hd : decide ((kk.length : Int) < (ds.length : Int)) = mv := by
    rw [hmv]
    exact decide_eq_decide.mpr (by omega)
  clear hmv
  cases mv with
  | false =>
    rw [if_neg (by decide)] at m13 m17
    try dsimp only
    repeat (first | (k_unfold; (try dsimp only)) | walk1 | (dsimp only; walk1))
    · unfold Stop
      rename Fr _ _ _ _ => F9
      rename News _ _ _ _ => N9
      refine same_news [x0] B F9 X T rfl N9 (.tail _ (.tail _ (.tail _ g3))) (.head _) (by simp) (by ktr_room) (by ktr_units) fun h' tk' FF NN => ?_
      clear F9 N9
      repeat (first | (k_unfold; (try dsimp only)) | walk1 | (dsimp only; walk1))
      rename Fr _ _ _ _ => FZ
      exact ret _ _ _ FZ
    · rename_i hx
      rw [hd] at hx
      exact absurd hx (by decide)
  | true =>
    rw [if_pos rfl] at m13 m17
    try dsimp only
    repeat (first | (k_unfold; (try dsimp only)) | walk1 | (dsimp only; walk1))
    · unfold Stop
      rename Fr _ _ _ _ => F9
      rename News _ _ _ _ => N9
      refine same_news [x0] B F9 X T rfl N9 (.tail _ (.tail _ (.tail _ g3))) (.head _) (by simp) (by ktr_room) (by ktr_units) fun h' tk' FF NN => ?_
      clear F9 N9
      repeat (first | (k_unfold; (try dsimp only)) | walk1 | (dsimp only; walk1))
      rename Fr _ _ _ _ => FZ
      exact ret _ _ _ FZ
    · rename_i hx
      rw [hd] at hx
      exact absurd hx (by decide)
end
end TX_Law21
-- Law20
section TX_Law20
theorem view4 {m : Str → Option Value} {a b c d : Str} {va vb vc vd : Option Value} (ha : m a = va) (hb : m b = vb) (hc : m c = vc) (hd : m d = vd) (y : Str) : (if y = a then va else if y = b then vb else if y = c then vc else if y = d then vd else m y) = m y := by
  by_cases qa : y = a
  · rw [if_pos qa, qa, ha]
  rw [if_neg qa]
  by_cases qb : y = b
  · rw [if_pos qb, qb, hb]
  rw [if_neg qb]
  by_cases qc : y = c
  · rw [if_pos qc, qc, hc]
  rw [if_neg qc]
  by_cases qd : y = d
  · rw [if_pos qd, qd, hd]
  rw [if_neg qd]
local macro_rules | `(tactic| wtm_at "call ref") => `(tactic| (k_here; (with_reducible show wpAny _ _ (call (Value.ref 355) _) _ _ _); refine Stop.mk ?_))
local macro_rules | `(tactic| wtm_at "call type:str") => `(tactic| (k_here; refine Stop.mk ?_))
local macro_rules | `(tactic| wtm_at "call builtin:len") => `(tactic| (k_here; (with_reducible show wpAny _ _ (call (Value.builtin "len") [Value.ref _]) _ _ _); k_dflt (refine' len_refs ?k1 ?k2 ?_; (case k1 => kmk_list); (case k2 => ((try simp only [List.length_take, List.length_drop, List.length_append, List.length_cons, List.length_nil, List.length_reverse, List.length_map]); omega)); k_whole)))
local macro_rules | `(tactic| wtm_at "getAttr ref") => `(tactic| (k_here; (with_reducible show wpAny _ _ (getAttr (Value.ref _) (PySem.Str.ofString "was_changed") _) _ _ _); k_dflt (refine' get_chg_none ?k1 ?k2 ?k3 ?k4 ?k5 ?_; (case k1 => k_asm); (case k2 => k_asm); (case k3 => k_inst); (case k4 => first | assumption | exact .inl rfl); (case k5 => with_reducible assumption); k_whole)))
local macro_rules | `(tactic| wtm_at "getAttr ref") => `(tactic| (k_here; (with_reducible show wpAny _ _ (getAttr (Value.ref _) (PySem.Str.ofString "parent") _) _ _ _); k_dflt (first
  | (refine' get_par_none ?k1 ?k2 ?k3 ?k4 ?k5 ?_; (case k1 => k_asm); (case k2 => k_asm); (case k3 => k_inst); (case k4 => first | assumption | exact .inl rfl); (case k5 => with_reducible assumption); k_whole)
  | (refine' get_par_ref ?k1 ?k2 ?k3 ?k4 ?k5 ?_; (case k1 => k_asm); (case k2 => k_asm); (case k3 => k_inst); (case k4 => first | assumption | exact .inl rfl); (case k5 => with_reducible assumption); k_whole))))
local macro_rules | `(tactic| wtm_at "compareOp Is ref ref") => `(tactic| (k_here; (with_reducible show wpAny _ _ (compareOp CmpOp.Is (Value.ref _) (Value.ref _)) _ _ _); k_dflt (refine' is_news ?a ?b ?n ?c ?_; (case a => k_asm); (case b => k_mem); (case n => k_mem); (case c => first | assumption | exact Ne.symm (by assumption)); k_whole)))
local macro_rules | `(tactic| wtm_at "compareOp IsNot ref ref") => `(tactic| (k_here; (with_reducible show wpAny _ _ (compareOp CmpOp.IsNot (Value.ref _) (Value.ref _)) _ _ _); k_dflt (refine' isnot_news ?a ?b ?n ?c ?_; (case a => k_asm); (case b => k_mem); (case n => k_mem); (case c => first | assumption | exact Ne.symm (by assumption)); k_whole)))
local macro_rules | `(tactic| wtm_at "exec For Name Name cons nil") => `(tactic| (k_here; (rename Fr _ _ _ _ => lF'); (with_unfolding_all refine' For_turns lF' ?_ ?hs ?hE; (case hs => intro _; rfl); (case hE => assumption); k_whole)))
local macro_rules | `(tactic| wtm_at "pyIter ref") => `(tactic| (k_here; (with_reducible show wpAny _ _ (pyIter (Value.ref _)) _ _ _); refine Stop.mk ?_))
local macro_rules | `(tactic| wtm_at "UnrEndW") => `(tactic| (refine Stop.mk ?_))
local macro_rules | `(tactic| wtm_at "eval ListComp") => `(tactic| (k_here; k_dflt (refine ListComp_VT (F₀ := by k_asm) (by with_unfolding_all rfl) (by decide) (by rfl) (by decide) (by rfl) ?_)))
local macro_rules | `(tactic| wtm_at "storeName") => `(tactic| (k_here; k_dflt (first
  | (refine' storeX_L ?F ?N ?_ ?a ?b; (case F => k_asm); (case N => k_asm); (case a => rfl); (case b => rfl); k_whole; intro h' F' N'; (try k_sweep))
  | (refine' storeX_C ?F ?N ?c ?U ?d ?_ ?a ?b; (case a => rfl); (case b => rfl); (case F => k_asm); (case N => k_asm); (case c => rfl); (case U => k_updF); (case d => k_asm); k_whole; intro h' o' F' N' d'; (try dsimp only at N'); (try k_sweep)))))
local macro_rules | `(tactic| k_updF) => `(tactic| exact UpdF.tail (by assumption) (UpdF.head (by assumption)))
section
variable {w : World} {A₀ : Around} {s : Shared} {L a : Addr} {h₀ base : Heap} {m mg mb : Str → Option Value} {mean : ExcName → Option Value} {loose : List Str}
  {dp un : Nat} {gd : Option (List Code)} {cn : Str} {cs : Scope} {ccd : Value} {cl : List (Str × Addr)} {outer : List Env} {E : Value → Shared → Prop}
set_option maxHeartbeats 4000000 in
theorem law20 {Q : Flow → Shared → Prop} {t : Mid} {ns : List Sm} {rest : List (Addr × Obj)} {oX : Obj} {v0 : Option Value} {vd vt vh : Value} {par : Sm → Option Value} {Ln : Addr} {nl : Nat}
  (B : Below callerA h₀ [] h₀) (F : Fr h₀ L s.heap m) (X : (Mine.hd.heap_39 w.params).In h₀) (T : Top Mine.hd.view_39 loose mean mg mb h₀)
  (N : News h₀ L s.heap ((L + 1 + 1, oX) :: rest)) (hoX : oX.data = .cell v0) (hne : ∀ p ∈ rest, p.1 ≠ L + 1 + 1)
  (hLn : (Ln, listOf ((ns.map Sm.x).map Value.ref).toArray nl) ∈ rest) (hns : ns.length ≤ 10) (okn : ∀ sm ∈ ns, SmOk (Gl rest) sm (par sm))
  (hcase : (vd = .none ∧ vt = .none ∧ ∀ sm ∈ ns, par sm = none) ∨ (∃ l ds n, vd = .ref l ∧ (l, listOf ((ds : List Addr).map Value.ref).toArray n) ∈ rest ∧ ds.length ≤ 40 ∧ (∀ c ∈ ds, ∃ C d, (c, instObj C d) ∈ rest) ∧
    ((vt = .none ∧ ∀ sm ∈ ns, par sm = if sm.x ∈ ds then some (.ref t.am) else none) ∨ ∃ T H, vt = .ref T ∧ vh = .ref H ∧ (∃ C d, (T, instObj C d) ∈ rest) ∧ ∀ sm ∈ ns, par sm = if sm.x = T then some (.ref H) else if sm.x ∈ ds then some (.ref t.am) else none)))
  (hnew : m "new" = some (.ref Ln)) (hhol : m "holder" = some vh) (htk : m "taken" = some vt) (hdue : m "due" = some vd) (hmid : m "middle" = some (.ref t.am))
  (hE : PassesOwn (model pw w) (callerA.deeper (lawEnv w L a ccd)) (lawEnv w L a ccd) E)
  (next : ∀ m' h' tk' o', (∀ y : Str, y ≠ Str.ofString "above" → m' y = m y) → Fr h₀ L h' m' → News h₀ L h' ((L + 1 + 1, o') :: rest) → Box (wpAny (model pw w) (callerA.deeper (lawEnv w L a ccd)) (execs ((bodyAt w 367).drop 21) (lawEnv w L a ccd)) Q E {s with heap := h', toks := tk'}))
  : Box (wpAny (model pw w) (callerA.deeper (lawEnv w L a ccd)) (execs ((bodyAt w 367).drop 20) (lawEnv w L a ccd)) Q E s) := by
  refine execs_consB (by with_unfolding_all rfl) ?_
  revert next hE
  refine scope_eq (x := scopeAt w 367) (by with_unfolding_all rfl) fun e => ?_
  unfold lawEnv
  rw [e]
  intro hE next
  clear e
  refine ⟨?_⟩
  have F1 := fr_view "new" F hnew
  clear F
  try dsimp only
  repeat (first | (k_unfold; (try dsimp only)) | walk1 | (dsimp only; walk1))
  unfold Stop
  rename Fr _ _ _ _ => F1
  refine iter_listTurns (by rfl) F1 N (.tail _ hLn) rfl rfl fun I hI => ?_
  clear F1 N
  have hI1 : @Ne Nat I (L + 1 + 1) := Nat.ne_of_gt (hI _ (.head _))
  refine items_ind (P := fun it => ∃ sm ∈ ns, it = .val (.ref sm.x)) (fun m' news => (∀ y : Str, y ≠ Str.ofString "above" → m' y = m y) ∧ ∃ o v, news = (L + 1 + 1, o) :: rest ∧ o.data = .cell v) ?fin ?step _ ?all _ _ ?J0
  case all =>
    intro it hit
    simp only [List.map_map, List.mem_map] at hit
    obtain ⟨sm, hsm, rfl⟩ := hit
    exact ⟨sm, hsm, rfl⟩
  case J0 => exact ⟨fun y hy => by
      by_cases q : y = Str.ofString "new"
      · rw [if_pos q, q, hnew]
      · rw [if_neg q], oX, v0, rfl, hoX⟩
  case fin =>
    rintro m₂ news ⟨hm, o, v, rfl, ho⟩
    refine ItemsRest.zero fun h tk F N => ?_
    exact (next m₂ h tk o hm F N).go
  case step =>
    rintro it r m₂ news ⟨sm, hsm, rfl⟩ ⟨hm, o, v, rfl, ho⟩ ih
    refine ItemsRest.val fun h tk F => ?_
    ktu_objs
    rename_i oI hcI N1
    have v1 := (hm _ (by decide)).trans hmid
    have v2 := (hm _ (by decide)).trans hdue
    have v3 := (hm _ (by decide)).trans htk
    have v4 := (hm _ (by decide)).trans hhol
    have F1 := fr_view "holder" (fr_view "taken" (fr_view "due" (fr_view "middle" F v1) v2) v3) v4
    have ok := okn sm hsm
    have okc := ok.cls
    obtain ⟨es, n1, g1, g2, g3, _⟩ := ok.ex
    have fin : ∀ h2 tk2 o2 v2 m2 all, o2.data = .cell v2 → Fr h₀ L h2 m2 → (∀ y, y ≠ Str.ofString "above" → m2 y = m₂ y) → News h₀ L h2 all → (I, oI) ∈ all → (L + 1 + 1, o2) ∈ all → (∀ p ∈ rest, p ∈ all) → UnrEndW h₀ L {s with heap := h, toks := tk} [(I, oI)] (fun m' n' => SubL [(Ln, listOf ((ns.map Sm.x).map Value.ref).toArray nl)] n' ∧ ItemsRest _ _ _ _ _ _ _ _ _ _ _ _ r m' n') {s with heap := h2, toks := tk2} := fun h2 tk2 o2 v2 m2 all d2 FF hm2 NN a1 a2 a3 => by
      refine turn_end FF NN (fun p hp => ?_) (fun p hp => ?_) (fun p hp q hq => ?_) ⟨mem_subL (.tail _ hLn), ih _ ((L + 1 + 1, o2) :: rest) ⟨fun y hy => ?_, o2, v2, rfl, d2⟩⟩ rfl
      · rw [List.mem_singleton.mp hp]; exact a1
      · rcases List.mem_cons.mp hp with rfl | hp
        · exact a2
        · exact a3 p hp
      · rw [List.mem_singleton.mp hq]
        rcases List.mem_cons.mp hp with rfl | hp
        · exact Ne.symm hI1
        · exact Nat.ne_of_lt (hI _ (.tail _ hp))
      · exact (hm2 y hy).trans (hm y hy)
    clear F
    try dsimp only
    rcases hcase with ⟨rfl, rfl, hp⟩ | ⟨l, ds, n, rfl, hl, hds, hdo, ⟨rfl, hp⟩ | ⟨T0, H, rfl, rfl, ⟨Ct, dt, hT0⟩, hp⟩⟩
    · rw [hp sm hsm] at g3
      clear next hE ih hp ok okn
      repeat (first | (k_unfold; (try dsimp only)) | walk1 | (dsimp only; walk1))
      unfold Stop
      rename Fr _ _ _ _ => F9
      rename News _ _ _ _ => N9
      refine fin _ _ _ _ _ _ (by assumption) F9 (fun y hy => (if_neg hy).trans (view4 v4 v3 v2 v1 y)) N9 (.head _) (.tail _ (.head _)) (fun p hp => .tail _ (.tail _ hp))
    · rw [hp sm hsm] at g3
      clear next hE ih hp ok okn
      repeat (first | (k_unfold; (try dsimp only)) | walk1 | (dsimp only; walk1))
      rename Fr _ _ _ _ => F9
      rename News _ _ _ _ => N9
      rename_i o2 d2
      refine LCt.CompSrcT.ledger (by rfl) F9 N9 (.tail _ (.tail _ hl)) (by simp only [List.size_toArray, List.length_map, sizeLine_eq]; omega) fun g' => ?_
      refine compT_ind (fun i ys news' => news' = (I, oI) :: (L + 1 + 1, o2) :: rest ∧ ys.length ≤ i ∧ (ys = [] ↔ sm.x ∉ ds.take i)) _ ?_ ?_ _ 0 [] _ (Nat.zero_add _) ⟨rfl, Nat.le_refl _, by simp⟩
      · intro i ys news hi hIv v I2 oI2 C oC Da m₃ h3 tk3 E' hP hC hx F3 N3 off ne
        obtain ⟨rfl, hys, hiff⟩ := hIv
        clear F9 N9 N1 F1
        obtain ⟨c, hc, rfl⟩ : ∃ c, ds[i]? = some c ∧ v = .ref c := by
          have hP' : (ds.map Value.ref)[i]? = some v := by simpa using hP
          rw [List.getElem?_map] at hP'
          obtain ⟨c, hc, e⟩ := Option.map_eq_some_iff.mp hP'
          exact ⟨c, hc, e.symm⟩
        have htake : ds.take (i + 1) = ds.take i ++ [c] := by rw [List.take_add_one, hc]; rfl
        clear hP
        have hS : LCg.SrcAt h₀ l (ds.map Value.ref).toArray ((I, oI) :: (L + 1 + 1, o2) :: rest) := .inr ⟨_, .tail _ (.tail _ hl), rfl, _, rfl⟩
        by_cases hcs : c = sm.x
        · subst hcs
          k_steps
          rename Fr _ _ _ _ => F8
          rename News _ _ _ _ => N8
          refine turn_go F8 N8 (fun p hp => off.mem p hp) hS ⟨rfl, by rw [List.length_append]; exact Nat.succ_le_succ hys, ?_⟩ rfl
          rw [htake]; simp
        · obtain ⟨Cc, dc, hcm⟩ := hdo c (List.mem_of_getElem? hc)
          k_steps
          rename Fr _ _ _ _ => F8
          rename News _ _ _ _ => N8
          refine turn_go F8 N8 (fun p hp => off.mem p hp) hS ⟨rfl, Nat.le_succ_of_le hys, ?_⟩ rfl
          rw [htake, hiff]
          simp [Ne.symm hcs]
      · intro ys news' hIv
        obtain ⟨rfl, hys, hiff⟩ := hIv
        have hsz : (ds.map Value.ref).toArray.size = ds.length := by simp
        rw [hsz] at hys hiff
        rw [List.take_length] at hiff
        unfold LCg.FinE
        intro D3 h3 tk3 F3 N3 o3
        clear F9 N9
        cases ys with
        | nil =>
          rw [if_neg (hiff.mp rfl)] at g3
          repeat (first | (k_unfold; (try dsimp only)) | walk1 | (dsimp only; walk1))
          unfold Stop
          rename Fr _ _ _ _ => F9
          rename News _ _ _ _ => N9
          refine fin _ _ _ _ _ _ d2 F9 (fun y hy => (if_neg hy).trans (view4 v4 v3 v2 v1 y)) N9 (.tail _ (.head _)) (.tail _ (.tail _ (.head _))) (fun p hp => .tail _ (.tail _ (.tail _ hp)))
        | cons y r =>
          have hin : sm.x ∈ ds := Classical.byContradiction fun h => nomatch (hiff.mpr h)
          rw [if_pos hin] at g3
          repeat (first | (k_unfold; (try dsimp only)) | walk1 | (dsimp only; walk1))
          unfold Stop
          rename Fr _ _ _ _ => F9
          rename News _ _ _ _ => N9
          refine fin _ _ _ _ _ _ d2 F9 (fun y hy => (if_neg hy).trans (view4 v4 v3 v2 v1 y)) N9 (.tail _ (.head _)) (.tail _ (.tail _ (.head _))) (fun p hp => .tail _ (.tail _ (.tail _ hp)))
    · rw [hp sm hsm] at g3
      clear next hE ih hp ok okn
      by_cases hT : sm.x = T0
      · rw [if_pos hT] at g3
        subst hT
        clear hT0
        repeat (first | (k_unfold; (try dsimp only)) | walk1 | (dsimp only; walk1))
        unfold Stop
        rename Fr _ _ _ _ => F9
        rename News _ _ _ _ => N9
        refine fin _ _ _ _ _ _ (by assumption) F9 (fun y hy => (if_neg hy).trans (view4 v4 v3 v2 v1 y)) N9 (.head _) (.tail _ (.head _)) (fun p hp => .tail _ (.tail _ hp))
      rw [if_neg hT] at g3
      repeat (first | (k_unfold; (try dsimp only)) | walk1 | (dsimp only; walk1))
      rename Fr _ _ _ _ => F9
      rename News _ _ _ _ => N9
      rename_i o2 d2
      refine LCt.CompSrcT.ledger (by rfl) F9 N9 (.tail _ (.tail _ hl)) (by simp only [List.size_toArray, List.length_map, sizeLine_eq]; omega) fun g' => ?_
      refine compT_ind (fun i ys news' => news' = (I, oI) :: (L + 1 + 1, o2) :: rest ∧ ys.length ≤ i ∧ (ys = [] ↔ sm.x ∉ ds.take i)) _ ?_ ?_ _ 0 [] _ (Nat.zero_add _) ⟨rfl, Nat.le_refl _, by simp⟩
      · intro i ys news hi hIv v I2 oI2 C oC Da m₃ h3 tk3 E' hP hC hx F3 N3 off ne
        obtain ⟨rfl, hys, hiff⟩ := hIv
        clear F9 N9 N1 F1
        obtain ⟨c, hc, rfl⟩ : ∃ c, ds[i]? = some c ∧ v = .ref c := by
          have hP' : (ds.map Value.ref)[i]? = some v := by simpa using hP
          rw [List.getElem?_map] at hP'
          obtain ⟨c, hc, e⟩ := Option.map_eq_some_iff.mp hP'
          exact ⟨c, hc, e.symm⟩
        have htake : ds.take (i + 1) = ds.take i ++ [c] := by rw [List.take_add_one, hc]; rfl
        clear hP
        have hS : LCg.SrcAt h₀ l (ds.map Value.ref).toArray ((I, oI) :: (L + 1 + 1, o2) :: rest) := .inr ⟨_, .tail _ (.tail _ hl), rfl, _, rfl⟩
        by_cases hcs : c = sm.x
        · subst hcs
          k_steps
          rename Fr _ _ _ _ => F8
          rename News _ _ _ _ => N8
          refine turn_go F8 N8 (fun p hp => off.mem p hp) hS ⟨rfl, by rw [List.length_append]; exact Nat.succ_le_succ hys, ?_⟩ rfl
          rw [htake]; simp
        · obtain ⟨Cc, dc, hcm⟩ := hdo c (List.mem_of_getElem? hc)
          k_steps
          rename Fr _ _ _ _ => F8
          rename News _ _ _ _ => N8
          refine turn_go F8 N8 (fun p hp => off.mem p hp) hS ⟨rfl, Nat.le_succ_of_le hys, ?_⟩ rfl
          rw [htake, hiff]
          simp [Ne.symm hcs]
      · intro ys news' hIv
        obtain ⟨rfl, hys, hiff⟩ := hIv
        have hsz : (ds.map Value.ref).toArray.size = ds.length := by simp
        rw [hsz] at hys hiff
        rw [List.take_length] at hiff
        unfold LCg.FinE
        intro D3 h3 tk3 F3 N3 o3
        clear F9 N9
        cases ys with
        | nil =>
          rw [if_neg (hiff.mp rfl)] at g3
          repeat (first | (k_unfold; (try dsimp only)) | walk1 | (dsimp only; walk1))
          unfold Stop
          rename Fr _ _ _ _ => F9
          rename News _ _ _ _ => N9
          refine fin _ _ _ _ _ _ d2 F9 (fun y hy => (if_neg hy).trans (view4 v4 v3 v2 v1 y)) N9 (.tail _ (.head _)) (.tail _ (.tail _ (.head _))) (fun p hp => .tail _ (.tail _ (.tail _ hp)))
        | cons y r =>
          have hin : sm.x ∈ ds := Classical.byContradiction fun h => nomatch (hiff.mpr h)
          rw [if_pos hin] at g3
          repeat (first | (k_unfold; (try dsimp only)) | walk1 | (dsimp only; walk1))
          unfold Stop
          rename Fr _ _ _ _ => F9
          rename News _ _ _ _ => N9
          refine fin _ _ _ _ _ _ d2 F9 (fun y hy => (if_neg hy).trans (view4 v4 v3 v2 v1 y)) N9 (.tail _ (.head _)) (.tail _ (.tail _ (.head _))) (fun p hp => .tail _ (.tail _ (.tail _ hp)))
end
end TX_Law20
-- Law18
section TX_Law18
local macro_rules | `(tactic| wtm_at "call ref") => `(tactic| (k_here; (with_reducible show wpAny _ _ (call (Value.ref 355) _) _ _ _); refine Stop.mk ?_))
local macro_rules | `(tactic| wtm_at "call type:str") => `(tactic| (k_here; refine Stop.mk ?_))
local macro_rules | `(tactic| wtm_at "call builtin:len") => `(tactic| (k_here; (with_reducible show wpAny _ _ (call (Value.builtin "len") [Value.ref _]) _ _ _); k_dflt (refine' len_refs ?k1 ?k2 ?_; (case k1 => kmk_list); (case k2 => ((try simp only [List.length_take, List.length_drop, List.length_append, List.length_cons, List.length_nil, List.length_reverse, List.length_map]); omega)); k_whole)))
local macro_rules | `(tactic| wtm_at "getAttr ref") => `(tactic| (k_here; (with_reducible show wpAny _ _ (getAttr (Value.ref _) (PySem.Str.ofString "was_changed") _) _ _ _); k_dflt (refine' get_chg_none ?k1 ?k2 ?k3 ?k4 ?k5 ?_; (case k1 => k_asm); (case k2 => k_asm); (case k3 => k_inst); (case k4 => first | assumption | exact .inl rfl); (case k5 => with_reducible assumption); k_whole)))
local macro_rules | `(tactic| wtm_at "getAttr ref") => `(tactic| (k_here; (with_reducible show wpAny _ _ (getAttr (Value.ref _) (PySem.Str.ofString "parent") _) _ _ _); k_dflt (first
  | (refine' get_par_none ?k1 ?k2 ?k3 ?k4 ?k5 ?_; (case k1 => k_asm); (case k2 => k_asm); (case k3 => k_inst); (case k4 => first | assumption | exact .inl rfl); (case k5 => with_reducible assumption); k_whole)
  | (refine' get_par_ref ?k1 ?k2 ?k3 ?k4 ?k5 ?_; (case k1 => k_asm); (case k2 => k_asm); (case k3 => k_inst); (case k4 => first | assumption | exact .inl rfl); (case k5 => with_reducible assumption); k_whole))))
local macro_rules | `(tactic| wtm_at "compareOp Is ref ref") => `(tactic| (k_here; (with_reducible show wpAny _ _ (compareOp CmpOp.Is (Value.ref _) (Value.ref _)) _ _ _); k_dflt (refine' is_news ?a ?b ?n ?c ?_; (case a => k_asm); (case b => k_mem); (case n => k_mem); (case c => first | assumption | exact Ne.symm (by assumption)); k_whole)))
local macro_rules | `(tactic| wtm_at "compareOp IsNot ref ref") => `(tactic| (k_here; (with_reducible show wpAny _ _ (compareOp CmpOp.IsNot (Value.ref _) (Value.ref _)) _ _ _); k_dflt (refine' isnot_news ?a ?b ?n ?c ?_; (case a => k_asm); (case b => k_mem); (case n => k_mem); (case c => first | assumption | exact Ne.symm (by assumption)); k_whole)))
local macro_rules | `(tactic| wtm_at "execs cons") => `(tactic| (k_here; (with_reducible show wpAny _ _ (execs (Stmt.For _ _ _ _ _ :: _) _) _ _ _); refine Stop.mk ?_))
section
variable {w : World} {A₀ : Around} {s : Shared} {L a : Addr} {h₀ base : Heap} {m mg mb : Str → Option Value} {mean : ExcName → Option Value} {loose : List Str}
  {dp un : Nat} {gd : Option (List Code)} {cn : Str} {cs : Scope} {ccd : Value} {cl : List (Str × Addr)} {outer : List Env} {E : Value → Shared → Prop}
set_option maxHeartbeats 4000000 in
theorem law18 {Q : Flow → Shared → Prop} {t : Mid} {ns sms : List Sm} {rst : Sm} {rest : List (Addr × Obj)} {oX : Obj} {vd : Value} {g : Bool} {tt : Tok} {par wc : Option Value} {hd Ln : Addr} {n1 n2 : Nat}
  (B : Below callerA h₀ [] h₀) (F : Fr h₀ L s.heap m) (X : (Mine.hd.heap_39 w.params).In h₀) (T : Top Mine.hd.view_39 loose mean mg mb h₀)
  (N : News h₀ L s.heap ((L + 1 + 1, oX) :: rest))
  (mid : MidOk (Gl rest) t (sms.map Sm.x) wc 60) (hs : ∀ sm ∈ sms, ∃ par, SmOk (Gl rest) sm par) (hr : SmOk (Gl rest) rst par) (hx : rst.x = t.rest) (hn : sms.length ≤ 40)
  (hhd : (hd, listOf ((ns.map Sm.x).map Value.ref).toArray n1) ∈ rest) (hLn : (Ln, listOf ((ns.map Sm.x).map Value.ref).toArray n2) ∈ rest) (hns : ns.length ≤ 10)
  (hcase : vd = .none ∨ ∃ l n, vd = .ref l ∧ (l, listOf ((sms.map Sm.x).map Value.ref).toArray n) ∈ rest)
  (v1 : m "went" = some (.bool g)) (v2 : m "goes" = some (.bool g)) (v3 : m "told" = some .none) (v4 : m "handed" = some (.ref hd)) (v5 : m "new" = some (.ref Ln)) (v6 : m "top" = some (.ref t.at_))
  (v7 : m "text" = some (.str (Txt.join "" [rst.txt, Txt.join "" (sms.map Sm.txt)]) tt)) (v8 : m "rest" = some (.ref t.rest)) (v9 : m "middle" = some (.ref t.am)) (v10 : m "due" = some vd)
  (next : ∀ h' tk', Fr h₀ L h' m → News h₀ L h' ((L + 1 + 1, oX) :: rest) → Box (wpAny (model pw w) (callerA.deeper (lawEnv w L a ccd)) (execs ((bodyAt w 367).drop 20) (lawEnv w L a ccd)) Q E {s with heap := h', toks := tk'}))
  : Box (wpAny (model pw w) (callerA.deeper (lawEnv w L a ccd)) (execs ((bodyAt w 367).drop 18) (lawEnv w L a ccd)) Q E s) := by
  refine execs_consB (by with_unfolding_all rfl) ?_
  revert next
  refine scope_eq (x := scopeAt w 367) (by with_unfolding_all rfl) fun e => ?_
  unfold lawEnv
  rw [e]
  intro next
  clear e
  refine ⟨?_⟩
  have hV := viewL_eq (m := m) [(Str.ofString "went", .bool g), (Str.ofString "goes", .bool g), (Str.ofString "told", .none), (Str.ofString "handed", .ref hd), (Str.ofString "new", .ref Ln), (Str.ofString "top", .ref t.at_), (Str.ofString "text", .str (Txt.join "" [rst.txt, Txt.join "" (sms.map Sm.txt)]) tt), (Str.ofString "rest", .ref t.rest), (Str.ofString "middle", .ref t.am), (Str.ofString "due", vd)] ⟨v1, v2, v3, v4, v5, v6, v7, v8, v9, v10, trivial⟩
  have F1 := fr_viewL hV F
  dsimp only [viewL] at F1
  have sok := top_str (w := w) (mg := mg) (mb := mb) (mean := mean) (loose := loose) mid (by omega) hs hr hx (by omega)
  obtain ⟨⟨mes, n, pes, n', nl, nt, m1, m2, m3, m4, m5, m6, m7, m8, m9, m10, m11, m12, m13, m14, m15, m16, m17⟩, hne⟩ := mid
  clear F v1 v2 v3 v4 v5 v6 v7 v8 v9 v10 m10 m11 m12 m13 m15 m16 m17
  try dsimp only
  repeat (first | (k_unfold; (try dsimp only)) | walk1 | (dsimp only; walk1))
  · exfalso
    rename_i hx
    simp at hx
  repeat (first | (k_unfold; (try dsimp only)) | walk1 | (dsimp only; walk1))
  unfold Stop
  rename Fr _ _ _ _ => F9
  rename News _ _ _ _ => N9
  refine same_news (ns.map Sm.x) B F9 X T rfl N9 (.tail _ hhd) (.tail _ hLn) (by rw [List.length_map]; omega) (by ktr_room) (by ktr_units) fun h2 tk2 F2 N2 => ?_
  clear F9 N9
  repeat (first | (k_unfold; (try dsimp only)) | walk1 | (dsimp only; walk1))
  unfold Stop
  rename Fr _ _ _ _ => F9
  rename News _ _ _ _ => N9
  refine str_news B F9 X T rfl N9 sok (fun p hp => .tail _ hp) (by ktr_room) (by ktr_units) fun h3 tk3 tk4 F3 N3 => ?_
  clear F9 N9
  repeat (first | (k_unfold; (try dsimp only)) | walk1 | (dsimp only; walk1))
  · exfalso
    rename_i hx
    simp at hx
  repeat (first | (k_unfold; (try dsimp only)) | walk1 | (dsimp only; walk1))
  unfold Stop
  rename Fr _ _ _ _ => F9
  rename News _ _ _ _ => N9
  refine same_news [t.rest, t.am] B F9 X T rfl N9 (.tail _ (.tail _ m6)) (.head _) (by simp) (by ktr_room) (by ktr_units) fun h5 tk5 F5 N5 => ?_
  clear F9 N9
  rcases hcase with rfl | ⟨l, nd, rfl, hl⟩
  · repeat (first | (k_unfold; (try dsimp only)) | walk1 | (dsimp only; walk1))
    rename Fr _ _ _ _ => F9
    rename News _ _ _ _ => N9
    unfold Stop
    exact (next _ _ (fr_back hV F9) (fun p hp => N9 p (.tail _ hp))).go
  · repeat (first | (k_unfold; (try dsimp only)) | walk1 | (dsimp only; walk1))
    unfold Stop
    rename Fr _ _ _ _ => F9
    rename News _ _ _ _ => N9
    refine same_news (sms.map Sm.x) B F9 X T rfl N9 (.tail _ (.tail _ m3)) (.tail _ (.tail _ hl)) (by rw [List.length_map]; omega) (by ktr_room) (by ktr_units) fun h6 tk6 F6 N6 => ?_
    clear F9 N9
    repeat (first | (k_unfold; (try dsimp only)) | walk1 | (dsimp only; walk1))
    rename Fr _ _ _ _ => F9
    rename News _ _ _ _ => N9
    unfold Stop
    exact (next _ _ (fr_back hV F9) (fun p hp => N9 p (.tail _ hp))).go
end
end TX_Law18
-- Law16
section TX_Law16
local macro_rules | `(tactic| wtm_at "call ref") => `(tactic| (k_here; (with_reducible show wpAny _ _ (call (Value.ref 355) _) _ _ _); refine Stop.mk ?_))
local macro_rules | `(tactic| wtm_at "call type:str") => `(tactic| (k_here; refine Stop.mk ?_))
local macro_rules | `(tactic| wtm_at "call builtin:len") => `(tactic| (k_here; (with_reducible show wpAny _ _ (call (Value.builtin "len") [Value.ref _]) _ _ _); k_dflt (refine' len_refs ?k1 ?k2 ?_; (case k1 => kmk_list); (case k2 => ((try simp only [List.length_take, List.length_drop, List.length_append, List.length_cons, List.length_nil, List.length_reverse, List.length_map]); omega)); k_whole)))
local macro_rules | `(tactic| wtm_at "getAttr ref") => `(tactic| (k_here; (with_reducible show wpAny _ _ (getAttr (Value.ref _) (PySem.Str.ofString "was_changed") _) _ _ _); k_dflt (refine' get_chg_none ?k1 ?k2 ?k3 ?k4 ?k5 ?_; (case k1 => k_asm); (case k2 => k_asm); (case k3 => k_inst); (case k4 => first | assumption | exact .inl rfl); (case k5 => with_reducible assumption); k_whole)))
local macro_rules | `(tactic| wtm_at "getAttr ref") => `(tactic| (k_here; (with_reducible show wpAny _ _ (getAttr (Value.ref _) (PySem.Str.ofString "parent") _) _ _ _); k_dflt (first
  | (refine' get_par_none ?k1 ?k2 ?k3 ?k4 ?k5 ?_; (case k1 => k_asm); (case k2 => k_asm); (case k3 => k_inst); (case k4 => first | assumption | exact .inl rfl); (case k5 => with_reducible assumption); k_whole)
  | (refine' get_par_ref ?k1 ?k2 ?k3 ?k4 ?k5 ?_; (case k1 => k_asm); (case k2 => k_asm); (case k3 => k_inst); (case k4 => first | assumption | exact .inl rfl); (case k5 => with_reducible assumption); k_whole))))
local macro_rules | `(tactic| wtm_at "compareOp Is ref ref") => `(tactic| (k_here; (with_reducible show wpAny _ _ (compareOp CmpOp.Is (Value.ref _) (Value.ref _)) _ _ _); k_dflt (refine' is_news ?a ?b ?n ?c ?_; (case a => k_asm); (case b => k_mem); (case n => k_mem); (case c => first | assumption | exact Ne.symm (by assumption)); k_whole)))
local macro_rules | `(tactic| wtm_at "compareOp IsNot ref ref") => `(tactic| (k_here; (with_reducible show wpAny _ _ (compareOp CmpOp.IsNot (Value.ref _) (Value.ref _)) _ _ _); k_dflt (refine' isnot_news ?a ?b ?n ?c ?_; (case a => k_asm); (case b => k_mem); (case n => k_mem); (case c => first | assumption | exact Ne.symm (by assumption)); k_whole)))
local macro_rules | `(tactic| wtm_at "call type:list") => `(tactic| (k_here; (with_reducible show wpAny _ _ (call (Value.type "list") [Value.ref _]) _ _ _); refine Stop.mk ?_))
local macro_rules | `(tactic| wtm_at "call ref") => `(tactic| (k_here; (with_reducible show wpAny _ _ (call (Value.ref _) _) _ _ _); refine Stop.mk ?_))
local macro_rules | `(tactic| wtm_at "noteFrame ref") => `(tactic| (k_here; refine Stop.mk ?_))
local macro_rules | `(tactic| wtm_at "exec Try") => `(tactic| (k_here; refine wpAny_Try_except ?_))
local macro_rules | `(tactic| wtm_at "execs cons") => `(tactic| (k_here; (with_reducible show wpAny _ _ (execs (Stmt.If (Expr.BoolOp BoolOp.Or _ _) _ _ _ :: _) _) _ _ _); refine Stop.mk ?_))
local macro_rules | `(tactic| wtm_at "assign Tuple") => `(tactic| (k_here; refine Stop.mk ?_))
section
variable {w : World} {A₀ : Around} {s : Shared} {L a : Addr} {h₀ base : Heap} {m mg mb : Str → Option Value} {mean : ExcName → Option Value} {loose : List Str}
  {dp un : Nat} {gd : Option (List Code)} {cn : Str} {cs : Scope} {ccd : Value} {cl : List (Str × Addr)} {outer : List Env} {E : Value → Shared → Prop}
set_option maxHeartbeats 4000000 in
theorem law16 {Q : Flow → Shared → Prop} {xs : List Addr} {rest : List (Addr × Obj)} {oX : Obj} {b g : Bool} {tx Ln : Addr} {n1 : Nat} {Post : Addr → Nat → List (Addr × Obj) → Prop}
  (B : Below callerA h₀ [] h₀) (F : Fr h₀ L s.heap m) (X : (Mine.hd.heap_39 w.params).In h₀) (T : Top Mine.hd.view_39 loose mean mg mb h₀)
  (N : News h₀ L s.heap ((L + 1 + 1, oX) :: rest)) (hLn : (Ln, listOf (xs.map Value.ref).toArray n1) ∈ rest) (hns : xs.length ≤ 10)
  (v1 : m "behind" = some (.bool b)) (v2 : m "new" = some (.ref Ln)) (v3 : m "target" = some (.ref tx))
  (hput : ∀ hd n, (∀ p ∈ (L + 1 + 1, oX) :: rest, p.1 < hd) → PutOk w h₀ L a ccd b hd tx g ((hd, listOf (xs.map Value.ref).toArray n) :: (L + 1 + 1, oX) :: rest) (Post hd n))
  (next : ∀ hd n m' news' h' tk', (∀ p ∈ (L + 1 + 1, oX) :: rest, p.1 < hd) → Post hd n news' → m' "handed" = some (.ref hd) → m' "told" = some .none → m' "went" = some (.bool g) → (∀ y : Str, y ≠ Str.ofString "handed" → y ≠ Str.ofString "told" → y ≠ Str.ofString "went" → m' y = m y) → Fr h₀ L h' m' → News h₀ L h' news' →
    Box (wpAny (model pw w) (callerA.deeper (lawEnv w L a ccd)) (execs ((bodyAt w 367).drop 18) (lawEnv w L a ccd)) Q E {s with heap := h', toks := tk'}))
  : Box (wpAny (model pw w) (callerA.deeper (lawEnv w L a ccd)) (execs ((bodyAt w 367).drop 16) (lawEnv w L a ccd)) Q E s) := by
  unfold PutOk at hput
  refine execs_consB (by with_unfolding_all rfl) ?_
  revert next hput
  refine scope_eq (x := scopeAt w 367) (by with_unfolding_all rfl) fun e => ?_
  unfold lawEnv
  rw [e]
  intro hput next
  clear e
  refine ⟨?_⟩
  have hV := viewL_eq (m := m) [(Str.ofString "behind", .bool b), (Str.ofString "new", .ref Ln), (Str.ofString "target", .ref tx)] ⟨v1, v2, v3, trivial⟩
  have F1 := fr_viewL hV F
  dsimp only [viewL] at F1
  clear F v1 v2 v3
  try dsimp only
  repeat (first | (k_unfold; (try dsimp only)) | walk1 | (dsimp only; walk1))
  unfold Stop
  refine copy_refs F1 N (.tail _ hLn) (by omega) fun hd c h2 F2 N2 lt2 => ?_
  clear F1 N
  have hput2 := hput hd c lt2
  cases b with
  | false =>
    repeat (first | (k_unfold; (try dsimp only)) | walk1 | (dsimp only; walk1))
    unfold Stop
    rename Fr _ _ _ _ => F9
    rename News _ _ _ _ => N9
    refine hput2 _ _ _ _ F9 N9 (fun hg news' h3 tk3 F3 N3 hP => ?_) (fun hg ee news' h3 tk3 hR hU hP => ?_)
    · clear F9 N9
      subst hg
      repeat (first | (k_unfold; (try dsimp only)) | walk1 | (dsimp only; walk1))
      unfold Stop
      rename Fr _ _ _ _ => F9
      rename News _ _ _ _ => N9
      refine (next hd c _ news' _ _ lt2 hP ?_ ?_ ?_ ?_ F9 N9).go
      · rw [if_neg (by decide), if_neg (by decide), if_pos rfl]
      · rw [if_neg (by decide), if_pos rfl]
      · rw [if_pos rfl]
      · intro y n1 n2 n3
        rw [if_neg n3, if_neg n2, if_neg n1]
        exact congrFun hV y
    · clear F9 N9
      subst hg
      repeat (first | (k_unfold; (try dsimp only)) | walk1 | (dsimp only; walk1))
      unfold Stop
      obtain ⟨gg, Fg, hUg⟩ := hU
      refine caughtX (T' := "RuntimeError") rfl rfl Fg hUg hR (fun h' E' Q' F' hq => ?_) PySem.F.isExc_RuntimeError PySem.F.notTuple_RuntimeError (by rw [isSubtype_type]; kernel_rfl) (fun h4 oe vs F4 N4 hd4 hc4 => ?_)
      · clear Fg
        walk1
        exact hq
      · clear Fg hR hUg
        repeat (first | (k_unfold; (try dsimp only)) | walk1 | (dsimp only; walk1))
        unfold Stop
        rename Fr _ _ _ _ => F9
        rename News _ _ _ _ => N9
        refine assign_tupleH F9 N9 rfl ⟨oe, vs, (N9 _ (.tail _ (.head _))).1, hd4, hc4⟩ (N9.isTup (.head _)) rfl rfl fun h7 F7 N7 => ?_
        clear F9 N9
        repeat (first | (k_unfold; (try dsimp only)) | walk1 | (dsimp only; walk1))
        unfold Stop
        rename Fr _ _ _ _ => F9
        rename News _ _ _ _ => N9
        refine (next hd c _ news' _ _ lt2 hP ?_ ?_ ?_ ?_ F9 (fun p hp => N9 p (.tail _ (.tail _ hp)))).go
        · rw [if_neg (by decide), if_neg (by decide), if_pos rfl]
        · rw [if_neg (by decide), if_pos rfl]
        · rw [if_pos rfl]
        · intro y n1 n2 n3
          rw [if_neg n3, if_neg n2, if_neg n1]
          exact congrFun hV y
  | true =>
    repeat (first | (k_unfold; (try dsimp only)) | walk1 | (dsimp only; walk1))
    unfold Stop
    rename Fr _ _ _ _ => F9
    rename News _ _ _ _ => N9
    refine hput2 _ _ _ _ F9 N9 (fun hg news' h3 tk3 F3 N3 hP => ?_) (fun hg ee news' h3 tk3 hR hU hP => ?_)
    · clear F9 N9
      subst hg
      repeat (first | (k_unfold; (try dsimp only)) | walk1 | (dsimp only; walk1))
      unfold Stop
      rename Fr _ _ _ _ => F9
      rename News _ _ _ _ => N9
      refine (next hd c _ news' _ _ lt2 hP ?_ ?_ ?_ ?_ F9 N9).go
      · rw [if_neg (by decide), if_neg (by decide), if_pos rfl]
      · rw [if_neg (by decide), if_pos rfl]
      · rw [if_pos rfl]
      · intro y n1 n2 n3
        rw [if_neg n3, if_neg n2, if_neg n1]
        exact congrFun hV y
    · clear F9 N9
      subst hg
      repeat (first | (k_unfold; (try dsimp only)) | walk1 | (dsimp only; walk1))
      unfold Stop
      obtain ⟨gg, Fg, hUg⟩ := hU
      refine caughtX (T' := "RuntimeError") rfl rfl Fg hUg hR (fun h' E' Q' F' hq => ?_) PySem.F.isExc_RuntimeError PySem.F.notTuple_RuntimeError (by rw [isSubtype_type]; kernel_rfl) (fun h4 oe vs F4 N4 hd4 hc4 => ?_)
      · clear Fg
        walk1
        exact hq
      · clear Fg hR hUg
        repeat (first | (k_unfold; (try dsimp only)) | walk1 | (dsimp only; walk1))
        unfold Stop
        rename Fr _ _ _ _ => F9
        rename News _ _ _ _ => N9
        refine assign_tupleH F9 N9 rfl ⟨oe, vs, (N9 _ (.tail _ (.head _))).1, hd4, hc4⟩ (N9.isTup (.head _)) rfl rfl fun h7 F7 N7 => ?_
        clear F9 N9
        repeat (first | (k_unfold; (try dsimp only)) | walk1 | (dsimp only; walk1))
        unfold Stop
        rename Fr _ _ _ _ => F9
        rename News _ _ _ _ => N9
        refine (next hd c _ news' _ _ lt2 hP ?_ ?_ ?_ ?_ F9 (fun p hp => N9 p (.tail _ (.tail _ hp)))).go
        · rw [if_neg (by decide), if_neg (by decide), if_pos rfl]
        · rw [if_neg (by decide), if_pos rfl]
        · rw [if_pos rfl]
        · intro y n1 n2 n3
          rw [if_neg n3, if_neg n2, if_neg n1]
          exact congrFun hV y
end
end TX_Law16
-- Law15
section TX_Law15
/-- the text that is due -/
def textOf (sms : List Sm) : Str := Str.ofString "s" ++ Txt.join "" (sms.map Sm.txt)
local macro_rules | `(tactic| wtm_at "call ref") => `(tactic| (k_here; (with_reducible show wpAny _ _ (call (Value.ref 355) _) _ _ _); refine Stop.mk ?_))
local macro_rules | `(tactic| wtm_at "call type:str") => `(tactic| (k_here; refine Stop.mk ?_))
local macro_rules | `(tactic| wtm_at "call builtin:len") => `(tactic| (k_here; (with_reducible show wpAny _ _ (call (Value.builtin "len") [Value.ref _]) _ _ _); k_dflt (refine' len_refs ?k1 ?k2 ?_; (case k1 => kmk_list); (case k2 => ((try simp only [List.length_take, List.length_drop, List.length_append, List.length_cons, List.length_nil, List.length_reverse, List.length_map]); omega)); k_whole)))
local macro_rules | `(tactic| wtm_at "getAttr ref") => `(tactic| (k_here; (with_reducible show wpAny _ _ (getAttr (Value.ref _) (PySem.Str.ofString "was_changed") _) _ _ _); k_dflt (refine' get_chg_none ?k1 ?k2 ?k3 ?k4 ?k5 ?_; (case k1 => k_asm); (case k2 => k_asm); (case k3 => k_inst); (case k4 => first | assumption | exact .inl rfl); (case k5 => with_reducible assumption); k_whole)))
local macro_rules | `(tactic| wtm_at "getAttr ref") => `(tactic| (k_here; (with_reducible show wpAny _ _ (getAttr (Value.ref _) (PySem.Str.ofString "parent") _) _ _ _); k_dflt (first
  | (refine' get_par_none ?k1 ?k2 ?k3 ?k4 ?k5 ?_; (case k1 => k_asm); (case k2 => k_asm); (case k3 => k_inst); (case k4 => first | assumption | exact .inl rfl); (case k5 => with_reducible assumption); k_whole)
  | (refine' get_par_ref ?k1 ?k2 ?k3 ?k4 ?k5 ?_; (case k1 => k_asm); (case k2 => k_asm); (case k3 => k_inst); (case k4 => first | assumption | exact .inl rfl); (case k5 => with_reducible assumption); k_whole))))
local macro_rules | `(tactic| wtm_at "compareOp Is ref ref") => `(tactic| (k_here; (with_reducible show wpAny _ _ (compareOp CmpOp.Is (Value.ref _) (Value.ref _)) _ _ _); k_dflt (refine' is_news ?a ?b ?n ?c ?_; (case a => k_asm); (case b => k_mem); (case n => k_mem); (case c => first | assumption | exact Ne.symm (by assumption)); k_whole)))
local macro_rules | `(tactic| wtm_at "compareOp IsNot ref ref") => `(tactic| (k_here; (with_reducible show wpAny _ _ (compareOp CmpOp.IsNot (Value.ref _) (Value.ref _)) _ _ _); k_dflt (refine' isnot_news ?a ?b ?n ?c ?_; (case a => k_asm); (case b => k_mem); (case n => k_mem); (case c => first | assumption | exact Ne.symm (by assumption)); k_whole)))
local macro_rules | `(tactic| wtm_at "call type:list") => `(tactic| (k_here; (with_reducible show wpAny _ _ (call (Value.type "list") [Value.ref _]) _ _ _); refine Stop.mk ?_))
local macro_rules | `(tactic| wtm_at "eval ListComp") => `(tactic| (k_here; k_dflt (refine ListComp_V (F₀ := by k_asm) (by with_unfolding_all rfl) (by decide) (by rfl) (by decide) (by rfl) ?_)))
local macro_rules | `(tactic| wtm_at "call builtin:str.join") => `(tactic| (k_here; k_dflt (refine PyProof.Rows.join_list (by kmk_list) (by with_reducible assumption) (by with_reducible assumption) (fun t' k => ?_))))
local macro_rules | `(tactic| wtm_at "binaryOp Add str str") => `(tactic| (k_here; refine PyProof.Rows.add_str (fun t' tk => ?_) (by rw [sizeLine_eq]; omega)))
local macro_rules | `(tactic| wtm_at "execs cons") => `(tactic| (k_here; (with_reducible show wpAny _ _ (execs (Stmt.Assign [Expr.Name (PySem.Str.ofString "handed") _] _ _ :: _) _) _ _ _); refine Stop.mk ?_))
section
variable {w : World} {A₀ : Around} {s : Shared} {L a : Addr} {h₀ base : Heap} {m mg mb : Str → Option Value} {mean : ExcName → Option Value} {loose : List Str}
  {dp un : Nat} {gd : Option (List Code)} {cn : Str} {cs : Scope} {ccd : Value} {cl : List (Str × Addr)} {outer : List Env} {E : Value → Shared → Prop}
set_option maxHeartbeats 4000000 in
theorem law15 {Q : Flow → Shared → Prop} {t : Mid} {sms : List Sm} {rest : List (Addr × Obj)} {oX : Obj} {vd : Value} {css : List Addr} {wc : Option Value}
  (B : Below callerA h₀ [] h₀) (F : Fr h₀ L s.heap m) (X : (Mine.hd.heap_39 w.params).In h₀) (T : Top Mine.hd.view_39 loose mean mg mb h₀)
  (N : News h₀ L s.heap ((L + 1 + 1, oX) :: rest)) (mid : MidOk (Gl rest) t css wc 60) (hs : ∀ sm ∈ sms, ∃ par, SmOk (Gl rest) sm par) (hn : sms.length ≤ 40)
  (hcase : (vd = .none ∧ css = sms.map Sm.x) ∨ ∃ l n, vd = .ref l ∧ (l, listOf ((sms.map Sm.x).map Value.ref).toArray n) ∈ rest)
  (v1 : m "due" = some vd) (v2 : m "middle" = some (.ref t.am))
  (next : ∀ m' h' tk' u, (∀ y : Str, y ≠ Str.ofString "text" → m' y = m y) → m' "text" = some (.str (textOf sms) u) → Fr h₀ L h' m' → News h₀ L h' ((L + 1 + 1, oX) :: rest) →
    Box (wpAny (model pw w) (callerA.deeper (lawEnv w L a ccd)) (execs ((bodyAt w 367).drop 16) (lawEnv w L a ccd)) Q E {s with heap := h', toks := tk'}))
  : Box (wpAny (model pw w) (callerA.deeper (lawEnv w L a ccd)) (execs ((bodyAt w 367).drop 15) (lawEnv w L a ccd)) Q E s) := by
  refine execs_consB (by with_unfolding_all rfl) ?_
  revert next
  refine scope_eq (x := scopeAt w 367) (by with_unfolding_all rfl) fun e => ?_
  unfold lawEnv
  rw [e]
  intro next
  clear e
  refine ⟨?_⟩
  have hV := viewL_eq (m := m) [(Str.ofString "due", vd), (Str.ofString "middle", .ref t.am)] ⟨v1, v2, trivial⟩
  have F1 := fr_viewL hV F
  dsimp only [viewL] at F1
  obtain ⟨⟨mes, n, pes, n', nl, nt, m1, m2, m3, m4, m5, m6, m7, m8, m9, m10, m11, m12, m13, m14, m15, m16, m17⟩, hne⟩ := mid
  clear F v1 v2 m4 m5 m6 m8 m10 m11 m12 m13 m14 m15 m16 m17
  try dsimp only
  rcases hcase with ⟨rfl, rfl⟩ | ⟨l, nd, rfl, hl⟩
  · repeat (first | (k_unfold; (try dsimp only)) | walk1 | (dsimp only; walk1))
    unfold Stop
    rename Fr _ _ _ _ => F9
    rename News _ _ _ _ => N9
    refine copy_refs F9 N9 (.tail _ m3) (by rw [List.length_map]; omega) fun D9 c9 h9 F2 N2 lt2 => ?_
    clear F9 N9
    repeat (first | (k_unfold; (try dsimp only)) | walk1 | (dsimp only; walk1))
    rename Fr _ _ _ _ => F1
    rename News _ _ _ _ => N1
    have hn2 : ((sms.map Sm.x).map Value.ref).toArray.size = sms.length := by simp
    refine LCg.CompSrc.ledger (by rfl) F1 N1 (.head _) (by rw [hn2, sizeLine_eq]; omega) fun g' => ?_
    refine comp_ind (fun i ys news' => news' = (D9, listOf ((sms.map Sm.x).map Value.ref).toArray c9) :: (L + 1 + 1, oX) :: rest ∧ StrsAre ys ((sms.map Sm.txt).take i)) _ ?_ ?_ _ 0 [] _ (Nat.zero_add _) ⟨rfl, .nil⟩
    · intro i ys news' hi hI v I oI C oC Da m₂ h tk E' hP hC hx F N off ne
      obtain ⟨rfl, hys⟩ := hI
      clear F1 N1
      obtain ⟨sm, hsm, rfl⟩ : ∃ sm, sms[i]? = some sm ∧ v = .ref sm.x := by
        have hP' : ((sms.map Sm.x).map Value.ref)[i]? = some v := by simpa using hP
        rw [List.getElem?_map, List.getElem?_map] at hP'
        obtain ⟨c, hc, e⟩ := Option.map_eq_some_iff.mp hP'
        obtain ⟨sm, hsm, e2⟩ := Option.map_eq_some_iff.mp hc
        exact ⟨sm, hsm, by rw [← e, ← e2]⟩
      obtain ⟨par, ok⟩ := hs sm (List.mem_of_getElem? hsm)
      clear hP
      k_steps
      unfold Stop
      rename Fr _ _ _ _ => F8
      rename News _ _ _ _ => N8
      refine str_news (led := rest) B F8 X T rfl N8 (small_str ok) (fun p hp => .tail _ (.tail _ (.tail _ (.tail _ (.tail _ hp))))) (by ktr_room) (by ktr_units) fun h3 tk3 tk4 F3 N3 => ?_
      refine turn_go F3 N3 (fun p hp => off.mem p hp) (.inr ⟨_, (.head _), rfl, _, rfl⟩) ⟨rfl, ?_⟩ rfl
      rw [List.take_add_one, List.getElem?_map, hsm]
      exact hys.append' (.cons _ _ .nil)
    · intro ys news' hI
      obtain ⟨rfl, hys⟩ := hI
      rw [hn2, List.take_of_length_le (by rw [List.length_map]; exact Nat.le_refl _)] at hys
      unfold LCg.FinE
      intro Dl h tk F N o1
      clear F1 N1
      have lens : ∀ t ∈ sms.map Sm.txt, t.length ≤ 120 := fun t ht => by
        obtain ⟨sm, h, rfl⟩ := List.mem_map.mp ht
        obtain ⟨p, o⟩ := hs sm h
        exact small_len o
      have lj := join_len _ 120 lens
      have ls := sum_le _ 120 lens
      rw [List.length_map] at lj ls
      have h0 : (Str.ofString "").length = 0 := by decide +kernel
      have h1 : (Str.ofString "s").length = 1 := by decide +kernel
      have hjoin : ((sms.map Sm.txt).map (·.length)).sum + (sms.map Sm.txt).length * (Str.ofString "").length ≤ 16777216 := by rw [h0]; omega
      -- what the comprehension and the join do, whatever list is walked
      repeat (first | (k_unfold; (try dsimp only)) | walk1 | (dsimp only; walk1))
      unfold Stop
      rename Fr _ _ _ _ => F8
      rename News _ _ _ _ => N8
      refine (next _ _ _ _ (fun y hy => ?_) (if_pos rfl) F8 (fun p hp => N8 p (.tail _ (.tail _ hp)))).go
      rw [if_neg hy]
      exact congrFun hV y
  · repeat (first | (k_unfold; (try dsimp only)) | walk1 | (dsimp only; walk1))
    rename Fr _ _ _ _ => F1
    rename News _ _ _ _ => N1
    have hn2 : ((sms.map Sm.x).map Value.ref).toArray.size = sms.length := by simp
    refine LCg.CompSrc.ledger (by rfl) F1 N1 (.tail _ hl) (by rw [hn2, sizeLine_eq]; omega) fun g' => ?_
    refine comp_ind (fun i ys news' => news' = (L + 1 + 1, oX) :: rest ∧ StrsAre ys ((sms.map Sm.txt).take i)) _ ?_ ?_ _ 0 [] _ (Nat.zero_add _) ⟨rfl, .nil⟩
    · intro i ys news' hi hI v I oI C oC Da m₂ h tk E' hP hC hx F N off ne
      obtain ⟨rfl, hys⟩ := hI
      clear F1 N1
      obtain ⟨sm, hsm, rfl⟩ : ∃ sm, sms[i]? = some sm ∧ v = .ref sm.x := by
        have hP' : ((sms.map Sm.x).map Value.ref)[i]? = some v := by simpa using hP
        rw [List.getElem?_map, List.getElem?_map] at hP'
        obtain ⟨c, hc, e⟩ := Option.map_eq_some_iff.mp hP'
        obtain ⟨sm, hsm, e2⟩ := Option.map_eq_some_iff.mp hc
        exact ⟨sm, hsm, by rw [← e, ← e2]⟩
      obtain ⟨par, ok⟩ := hs sm (List.mem_of_getElem? hsm)
      clear hP
      k_steps
      unfold Stop
      rename Fr _ _ _ _ => F8
      rename News _ _ _ _ => N8
      refine str_news (led := rest) B F8 X T rfl N8 (small_str ok) (fun p hp => .tail _ (.tail _ (.tail _ (.tail _ hp)))) (by ktr_room) (by ktr_units) fun h3 tk3 tk4 F3 N3 => ?_
      refine turn_go F3 N3 (fun p hp => off.mem p hp) (.inr ⟨_, (.tail _ hl), rfl, _, rfl⟩) ⟨rfl, ?_⟩ rfl
      rw [List.take_add_one, List.getElem?_map, hsm]
      exact hys.append' (.cons _ _ .nil)
    · intro ys news' hI
      obtain ⟨rfl, hys⟩ := hI
      rw [hn2, List.take_of_length_le (by rw [List.length_map]; exact Nat.le_refl _)] at hys
      unfold LCg.FinE
      intro Dl h tk F N o1
      clear F1 N1
      have lens : ∀ t ∈ sms.map Sm.txt, t.length ≤ 120 := fun t ht => by
        obtain ⟨sm, h, rfl⟩ := List.mem_map.mp ht
        obtain ⟨p, o⟩ := hs sm h
        exact small_len o
      have lj := join_len _ 120 lens
      have ls := sum_le _ 120 lens
      rw [List.length_map] at lj ls
      have h0 : (Str.ofString "").length = 0 := by decide +kernel
      have h1 : (Str.ofString "s").length = 1 := by decide +kernel
      have hjoin : ((sms.map Sm.txt).map (·.length)).sum + (sms.map Sm.txt).length * (Str.ofString "").length ≤ 16777216 := by rw [h0]; omega
      -- what the comprehension and the join do, whatever list is walked
      repeat (first | (k_unfold; (try dsimp only)) | walk1 | (dsimp only; walk1))
      unfold Stop
      rename Fr _ _ _ _ => F8
      rename News _ _ _ _ => N8
      refine (next _ _ _ _ (fun y hy => ?_) (if_pos rfl) F8 (fun p hp => N8 p (.tail _ hp))).go
      rw [if_neg hy]
      exact congrFun hV y
end
end TX_Law15
-- Law14
section TX_Law14
section
variable {w : World} {A₀ : Around} {s : Shared} {L a : Addr} {h₀ base : Heap} {m mg mb : Str → Option Value} {mean : ExcName → Option Value} {loose : List Str}
  {dp un : Nat} {gd : Option (List Code)} {cn : Str} {cs : Scope} {ccd : Value} {cl : List (Str × Addr)} {outer : List Env} {E : Value → Shared → Prop}
theorem fresh_news {h h' : Heap} {D : Addr} {o : Obj} (F : Fr h₀ L h m) (e : h.get? D = none) (e' : h'.get? D = some o) : h'.get? D = some o ∧ D ≠ L ∧ h₀.get? D = none := by
  refine ⟨e', fun q => ?_, ?_⟩
  · obtain ⟨oL, _, _, hL, _⟩ := F.ns
    rw [q, hL] at e; cases e
  · cases q : h₀.get? D with
    | none => rfl
    | some o' => have := F.keep D o' q; rw [e] at this; cases this
theorem fresh_ne {h : Heap} {D : Addr} {news : List (Addr × Obj)} (N : News h₀ L h news) (e : h.get? D = none) : ∀ p ∈ news, p.1 ≠ D := fun p hp q => by
  have := (N p hp).1
  rw [q, e] at this; cases this
theorem due_none_news {Q : Value → Shared → Prop} {nl : Addr} {xs : List Addr} {n : Nat} {vk : Value} {b : Bool} {news : List (Addr × Obj)}
  (B : Below A₀ base outer h₀) (F : Fr h₀ L s.heap m) (X : (Mine.hd.heap_39 w.params).In h₀) (T : Top Mine.hd.view_39 loose mean mg mb h₀) (hk : cs.kind = .function) (N : News h₀ L s.heap news)
  (hl : (nl, listOf (xs.map Value.ref).toArray n) ∈ news) (hxs : xs.length ≤ 10) (hvk : vk = .none ∨ ∃ kl, vk = .ref kl)
  (hdp : dp + 40 < recursionLimit) (hun : un + 400 < cLine)
  (ret : ∀ D h' tk', Fr h₀ L h' m → News h₀ L h' ((D, tupOf [vk, .bool xs.isEmpty]) :: news) → Q (.ref D) {s with heap := h', toks := tk'})
  : wpAny (model pw w) (ktrTop dp un gd cn cs L a ccd cl outer) (call (.ref 362) [.ref nl, .none, .none, vk, .bool b]) Q E s :=
  due_none B F X T hk (N _ hl).1 (N _ hl).2.2 (N _ hl).2.1 hxs hvk hdp hun fun D h' tk' e1 ex e2 => ret D h' tk' (ex.fr F (fun h => nomatch h) (fun _ h => nomatch h)) fun p hp => by
    rcases List.mem_cons.mp hp with rfl | hp
    · exact fresh_news F e1 e2
    · exact (ex.news N (fun _ _ h => nomatch h)) p hp
theorem due_list_news {Q : Value → Shared → Prop} {nl kl : Addr} {xs cs' : List Addr} {n n2 k : Nat} {vt : Value} {b : Bool} {u : Tok} {news : List (Addr × Obj)}
  (B : Below A₀ base outer h₀) (F : Fr h₀ L s.heap m) (X : (Mine.hd.heap_39 w.params).In h₀) (T : Top Mine.hd.view_39 loose mean mg mb h₀) (hk : cs.kind = .function) (N : News h₀ L s.heap news)
  (hl : (nl, listOf (xs.map Value.ref).toArray n) ∈ news) (hxs : xs.length ≤ 10) (hc : (kl, listOf (cs'.map Value.ref).toArray n2) ∈ news) (hcs : cs'.length ≤ 10) (hkk : k ≤ 10) (hob : ∀ x ∈ xs, ∃ C d, (x, instObj C d) ∈ news) (hvt : vt = .none ∨ ∃ T ∈ xs, vt = .ref T)
  (hdp : dp + 40 < recursionLimit) (hun : un + 400 < cLine)
  (ret : ∀ D l i n' h' tk', i ≤ xs.length → (∀ j, j < i → ∀ x, (ordOf b xs)[j]? = some x → vt ≠ .ref x) → (i < xs.length → ∃ x, (ordOf b xs)[i]? = some x ∧ vt = .ref x) → (∀ p ∈ news, p.1 ≠ l) → Fr h₀ L h' m →
    News h₀ L h' ((D, tupOf [.ref l, .bool (decide (i = xs.length))]) :: (l, listOf ((csAt b k cs' ((ordOf b xs).take i)).map Value.ref).toArray n') :: news) → Q (.ref D) {s with heap := h', toks := tk'})
  : wpAny (model pw w) (ktrTop dp un gd cn cs L a ccd cl outer) (call (.ref 362) [.ref nl, vt, .int (k : Int) u, .ref kl, .bool b]) Q E s :=
  due_list B F X T hk (N _ hl).1 (N _ hl).2.2 (N _ hl).2.1 hxs (N _ hc).1 (N _ hc).2.2 (N _ hc).2.1 hcs hkk (fun x hx => by
    obtain ⟨C, d, h⟩ := hob x hx
    exact ⟨C, d, (N _ h).1⟩) hvt hdp hun fun D l i n' h' tk' a1 a2 a3 e1 e2 ex e3 e4 => ret D l i n' h' tk' a1 a2 a3 (fresh_ne N e2) (ex.fr F (fun h => nomatch h) (fun _ h => nomatch h)) fun p hp => by
    rcases List.mem_cons.mp hp with rfl | hp
    · exact fresh_news F e1 e3
    rcases List.mem_cons.mp hp with rfl | hp
    · exact fresh_news F e2 e4
    · exact (ex.news N (fun _ _ h => nomatch h)) p hp
end
local macro_rules | `(tactic| wtm_at "call ref") => `(tactic| (k_here; (with_reducible show wpAny _ _ (call (Value.ref 355) _) _ _ _); refine Stop.mk ?_))
local macro_rules | `(tactic| wtm_at "call type:str") => `(tactic| (k_here; refine Stop.mk ?_))
local macro_rules | `(tactic| wtm_at "call builtin:len") => `(tactic| (k_here; (with_reducible show wpAny _ _ (call (Value.builtin "len") [Value.ref _]) _ _ _); k_dflt (refine' len_refs ?k1 ?k2 ?_; (case k1 => kmk_list); (case k2 => ((try simp only [List.length_take, List.length_drop, List.length_append, List.length_cons, List.length_nil, List.length_reverse, List.length_map]); omega)); k_whole)))
local macro_rules | `(tactic| wtm_at "getAttr ref") => `(tactic| (k_here; (with_reducible show wpAny _ _ (getAttr (Value.ref _) (PySem.Str.ofString "was_changed") _) _ _ _); k_dflt (refine' get_chg_none ?k1 ?k2 ?k3 ?k4 ?k5 ?_; (case k1 => k_asm); (case k2 => k_asm); (case k3 => k_inst); (case k4 => first | assumption | exact .inl rfl); (case k5 => with_reducible assumption); k_whole)))
local macro_rules | `(tactic| wtm_at "getAttr ref") => `(tactic| (k_here; (with_reducible show wpAny _ _ (getAttr (Value.ref _) (PySem.Str.ofString "parent") _) _ _ _); k_dflt (first
  | (refine' get_par_none ?k1 ?k2 ?k3 ?k4 ?k5 ?_; (case k1 => k_asm); (case k2 => k_asm); (case k3 => k_inst); (case k4 => first | assumption | exact .inl rfl); (case k5 => with_reducible assumption); k_whole)
  | (refine' get_par_ref ?k1 ?k2 ?k3 ?k4 ?k5 ?_; (case k1 => k_asm); (case k2 => k_asm); (case k3 => k_inst); (case k4 => first | assumption | exact .inl rfl); (case k5 => with_reducible assumption); k_whole))))
local macro_rules | `(tactic| wtm_at "compareOp Is ref ref") => `(tactic| (k_here; (with_reducible show wpAny _ _ (compareOp CmpOp.Is (Value.ref _) (Value.ref _)) _ _ _); k_dflt (refine' is_news ?a ?b ?n ?c ?_; (case a => k_asm); (case b => k_mem); (case n => k_mem); (case c => first | assumption | exact Ne.symm (by assumption)); k_whole)))
local macro_rules | `(tactic| wtm_at "compareOp IsNot ref ref") => `(tactic| (k_here; (with_reducible show wpAny _ _ (compareOp CmpOp.IsNot (Value.ref _) (Value.ref _)) _ _ _); k_dflt (refine' isnot_news ?a ?b ?n ?c ?_; (case a => k_asm); (case b => k_mem); (case n => k_mem); (case c => first | assumption | exact Ne.symm (by assumption)); k_whole)))
local macro_rules | `(tactic| wtm_at "call ref") => `(tactic| (k_here; (with_reducible show wpAny _ _ (call (Value.ref _) _) _ _ _); refine Stop.mk ?_))
local macro_rules | `(tactic| wtm_at "execs cons") => `(tactic| (k_here; (with_reducible show wpAny _ _ (execs (Stmt.Assign [Expr.Name (PySem.Str.ofString "text") _] _ _ :: _) _) _ _ _); refine Stop.mk ?_))
section
variable {w : World} {A₀ : Around} {s : Shared} {L a : Addr} {h₀ base : Heap} {m mg mb : Str → Option Value} {mean : ExcName → Option Value} {loose : List Str}
  {dp un : Nat} {gd : Option (List Code)} {cn : Str} {cs : Scope} {ccd : Value} {cl : List (Str × Addr)} {outer : List Env} {E : Value → Shared → Prop}
set_option maxHeartbeats 4000000 in
theorem law14N {Q : Flow → Shared → Prop} {xs : List Addr} {rest : List (Addr × Obj)} {oX : Obj} {vk : Value} {b : Bool} {Ln : Addr} {n1 : Nat}
  (B : Below callerA h₀ [] h₀) (F : Fr h₀ L s.heap m) (X : (Mine.hd.heap_39 w.params).In h₀) (T : Top Mine.hd.view_39 loose mean mg mb h₀)
  (N : News h₀ L s.heap ((L + 1 + 1, oX) :: rest)) (hLn : (Ln, listOf (xs.map Value.ref).toArray n1) ∈ rest) (hxs : xs.length ≤ 10) (hvk : vk = .none ∨ ∃ kl, vk = .ref kl)
  (v1 : m "new" = some (.ref Ln)) (v2 : m "taken" = some .none) (v3 : m "place" = some .none) (v4 : m "kids" = some vk) (v5 : m "behind" = some (.bool b))
  (next : ∀ m' h' tk', (∀ y : Str, y ≠ Str.ofString "due" → y ≠ Str.ofString "goes" → m' y = m y) → m' "due" = some vk → m' "goes" = some (.bool xs.isEmpty) → Fr h₀ L h' m' → News h₀ L h' ((L + 1 + 1, oX) :: rest) →
    Box (wpAny (model pw w) (callerA.deeper (lawEnv w L a ccd)) (execs ((bodyAt w 367).drop 15) (lawEnv w L a ccd)) Q E {s with heap := h', toks := tk'}))
  : Box (wpAny (model pw w) (callerA.deeper (lawEnv w L a ccd)) (execs ((bodyAt w 367).drop 14) (lawEnv w L a ccd)) Q E s) := by
  refine execs_consB (by with_unfolding_all rfl) ?_
  revert next
  refine scope_eq (x := scopeAt w 367) (by with_unfolding_all rfl) fun e => ?_
  unfold lawEnv
  rw [e]
  intro next
  clear e
  refine ⟨?_⟩
  have hV := viewL_eq (m := m) [(Str.ofString "new", .ref Ln), (Str.ofString "taken", .none), (Str.ofString "place", .none), (Str.ofString "kids", vk), (Str.ofString "behind", .bool b)] ⟨v1, v2, v3, v4, v5, trivial⟩
  have F1 := fr_viewL hV F
  dsimp only [viewL] at F1
  clear F v1 v2 v3 v4 v5
  try dsimp only
  repeat (first | (k_unfold; (try dsimp only)) | walk1 | (dsimp only; walk1))
  unfold Stop
  rename Fr _ _ _ _ => F9
  rename News _ _ _ _ => N9
  refine due_none_news B F9 X T rfl N9 (.tail _ hLn) hxs hvk (by ktr_room) (by ktr_units) fun D h2 tk2 F2 N2 => ?_
  clear F9 N9
  repeat (first | (k_unfold; (try dsimp only)) | walk1 | (dsimp only; walk1))
  unfold Stop
  rename Fr _ _ _ _ => F8
  rename News _ _ _ _ => N8
  refine (next _ _ _ (fun y h1 h2 => ?_) ?_ ?_ F8 (fun p hp => N8 p (.tail _ hp))).go
  · rw [if_neg h2, if_neg h1]
    exact congrFun hV y
  · rw [if_neg (by decide), if_pos rfl]
  · rw [if_pos rfl]
set_option maxHeartbeats 4000000 in
theorem law14L {Q : Flow → Shared → Prop} {xs cs' : List Addr} {rest : List (Addr × Obj)} {oX : Obj} {vt : Value} {b : Bool} {Ln kl : Addr} {n1 n2 k : Nat} {u : Tok}
  (B : Below callerA h₀ [] h₀) (F : Fr h₀ L s.heap m) (X : (Mine.hd.heap_39 w.params).In h₀) (T : Top Mine.hd.view_39 loose mean mg mb h₀)
  (N : News h₀ L s.heap ((L + 1 + 1, oX) :: rest)) (hLn : (Ln, listOf (xs.map Value.ref).toArray n1) ∈ rest) (hxs : xs.length ≤ 10) (hkl : (kl, listOf (cs'.map Value.ref).toArray n2) ∈ rest) (hcs : cs'.length ≤ 10) (hkk : k ≤ 10)
  (hob : ∀ x ∈ xs, ∃ C d, (x, instObj C d) ∈ rest) (hvt : vt = .none ∨ ∃ T ∈ xs, vt = .ref T)
  (v1 : m "new" = some (.ref Ln)) (v2 : m "taken" = some vt) (v3 : m "place" = some (.int (k : Int) u)) (v4 : m "kids" = some (.ref kl)) (v5 : m "behind" = some (.bool b))
  (next : ∀ l i n' m' h' tk', i ≤ xs.length → (∀ j, j < i → ∀ x, (ordOf b xs)[j]? = some x → vt ≠ .ref x) → (i < xs.length → ∃ x, (ordOf b xs)[i]? = some x ∧ vt = .ref x) → (∀ p ∈ (L + 1 + 1, oX) :: rest, p.1 ≠ l) →
    (∀ y : Str, y ≠ Str.ofString "due" → y ≠ Str.ofString "goes" → m' y = m y) → m' "due" = some (.ref l) → m' "goes" = some (.bool (decide (i = xs.length))) → Fr h₀ L h' m' →
    News h₀ L h' ((L + 1 + 1, oX) :: (l, listOf ((csAt b k cs' ((ordOf b xs).take i)).map Value.ref).toArray n') :: rest) →
    Box (wpAny (model pw w) (callerA.deeper (lawEnv w L a ccd)) (execs ((bodyAt w 367).drop 15) (lawEnv w L a ccd)) Q E {s with heap := h', toks := tk'}))
  : Box (wpAny (model pw w) (callerA.deeper (lawEnv w L a ccd)) (execs ((bodyAt w 367).drop 14) (lawEnv w L a ccd)) Q E s) := by
  refine execs_consB (by with_unfolding_all rfl) ?_
  revert next
  refine scope_eq (x := scopeAt w 367) (by with_unfolding_all rfl) fun e => ?_
  unfold lawEnv
  rw [e]
  intro next
  clear e
  refine ⟨?_⟩
  have hV := viewL_eq (m := m) [(Str.ofString "new", .ref Ln), (Str.ofString "taken", vt), (Str.ofString "place", .int (k : Int) u), (Str.ofString "kids", .ref kl), (Str.ofString "behind", .bool b)] ⟨v1, v2, v3, v4, v5, trivial⟩
  have F1 := fr_viewL hV F
  dsimp only [viewL] at F1
  clear F v1 v2 v3 v4 v5
  try dsimp only
  repeat (first | (k_unfold; (try dsimp only)) | walk1 | (dsimp only; walk1))
  unfold Stop
  rename Fr _ _ _ _ => F9
  rename News _ _ _ _ => N9
  refine due_list_news B F9 X T rfl N9 (.tail _ hLn) hxs (.tail _ hkl) hcs hkk (fun x hx => ?_) hvt (by ktr_room) (by ktr_units) fun D l i n' h2 tk2 hi a2 a3 hl F2 N2 => ?_
  · obtain ⟨C, d, h⟩ := hob x hx
    exact ⟨C, d, .tail _ h⟩
  clear F9 N9
  have next2 := fun m' h' tk' => next l i n' m' h' tk' hi a2 a3 hl
  clear next a2 a3 hob hvt
  repeat (first | (k_unfold; (try dsimp only)) | walk1 | (dsimp only; walk1))
  unfold Stop
  rename Fr _ _ _ _ => F8
  rename News _ _ _ _ => N8
  refine (next2 _ _ _ (fun y h1 h2 => ?_) ?_ ?_ F8 (fun p hp => N8 p ?_)).go
  · rw [if_neg h2, if_neg h1]
    exact congrFun hV y
  · rw [if_neg (by decide), if_pos rfl]
  · rw [if_pos rfl]
  · rcases List.mem_cons.mp hp with rfl | hp
    · exact .tail _ (.tail _ (.head _))
    rcases List.mem_cons.mp hp with rfl | hp
    · exact .tail _ (.head _)
    · exact .tail _ (.tail _ (.tail _ hp))
end
end TX_Law14
-- Law11
section TX_Law11
theorem delL_some : ∀ (l : List Value) (k : Nat), k < l.length → ki_delL l k = some (l.eraseIdx k)
  | [], k, h => absurd h (Nat.not_lt_zero _)
  | x :: r, 0, _ => rfl
  | x :: r, k + 1, h => by
    show (match ki_delL r k with | some q => some (x :: q) | none => none) = _
    rw [delL_some r k (Nat.lt_of_succ_lt_succ h)]
    rfl
theorem map_eraseIdx {α β : Type} (f : α → β) : ∀ (l : List α) (k : Nat), (l.map f).eraseIdx k = (l.eraseIdx k).map f
  | [], _ => rfl
  | x :: r, 0 => rfl
  | x :: r, k + 1 => by
    show f x :: (r.map f).eraseIdx k = f x :: (r.eraseIdx k).map f
    rw [map_eraseIdx f r k]
section
variable {prog : Program} {w : World} {A : Around} {E : Value → Shared → Prop} {s : Shared} {h₀ : Heap} {L l : Addr} {m : Str → Option Value} {rest : List (Addr × Obj)} {xs : List Addr} {n p : Nat} {u : Tok} {Q : Unit → Shared → Prop}
theorem del_refs (F : Fr h₀ L s.heap m) (N : News h₀ L s.heap ((l, listOf (xs.map Value.ref).toArray n) :: rest)) (hne : ∀ q ∈ rest, q.1 ≠ l) (hp : p < xs.length) (hx : xs.length ≤ 100)
    (h : ∀ h', Fr h₀ L h' m → News h₀ L h' ((l, listOf ((xs.eraseIdx p).map Value.ref).toArray (n + 1)) :: rest) → Q () { s with heap := h' }) : wpAny (model prog w) A (delItem (.ref l) (.int ((p : Nat) : Int) u)) Q E s := by
  refine ki_del (k := p) (q := (xs.map Value.ref).eraseIdx p) F N ?_ ?_ (delL_some _ _ (by simpa using hp)) (.head hne) (by rw [List.length_map, sizeLine_eq]; omega) fun h' F' N' => h h' F' (by rw [← map_eraseIdx]; exact N')
  · unfold Builtin.List.listFitsIndex
    have a1 : (-(2 ^ 63 : Int)) ≤ 0 := by decide
    have a2 : (100 : Int) < 2 ^ 63 := by decide
    rw [Bool.and_eq_true, decide_eq_true_eq, decide_eq_true_eq]
    exact ⟨Int.le_trans a1 (Int.natCast_nonneg p), Int.lt_trans (by omega) a2⟩
  · have hz : ¬ (((p : Nat) : Int) < 0) := by omega
    have h1 : (xs.map Value.ref).toArray.size = xs.length := by simp
    unfold seqIndex?
    simp only [if_neg hz, h1]
    rw [if_pos (by rw [Bool.and_eq_true, decide_eq_true_eq, decide_eq_true_eq]; omega), Int.toNat_natCast]
end
local macro_rules | `(tactic| wtm_at "call ref") => `(tactic| (k_here; (with_reducible show wpAny _ _ (call (Value.ref 355) _) _ _ _); refine Stop.mk ?_))
local macro_rules | `(tactic| wtm_at "call type:str") => `(tactic| (k_here; refine Stop.mk ?_))
local macro_rules | `(tactic| wtm_at "call builtin:len") => `(tactic| (k_here; (with_reducible show wpAny _ _ (call (Value.builtin "len") [Value.ref _]) _ _ _); k_dflt (refine' len_refs ?k1 ?k2 ?_; (case k1 => kmk_list); (case k2 => ((try simp only [List.length_take, List.length_drop, List.length_append, List.length_cons, List.length_nil, List.length_reverse, List.length_map]); omega)); k_whole)))
local macro_rules | `(tactic| wtm_at "getAttr ref") => `(tactic| (k_here; (with_reducible show wpAny _ _ (getAttr (Value.ref _) (PySem.Str.ofString "was_changed") _) _ _ _); k_dflt (refine' get_chg_none ?k1 ?k2 ?k3 ?k4 ?k5 ?_; (case k1 => k_asm); (case k2 => k_asm); (case k3 => k_inst); (case k4 => first | assumption | exact .inl rfl); (case k5 => with_reducible assumption); k_whole)))
local macro_rules | `(tactic| wtm_at "getAttr ref") => `(tactic| (k_here; (with_reducible show wpAny _ _ (getAttr (Value.ref _) (PySem.Str.ofString "parent") _) _ _ _); k_dflt (first
  | (refine' get_par_none ?k1 ?k2 ?k3 ?k4 ?k5 ?_; (case k1 => k_asm); (case k2 => k_asm); (case k3 => k_inst); (case k4 => first | assumption | exact .inl rfl); (case k5 => with_reducible assumption); k_whole)
  | (refine' get_par_ref ?k1 ?k2 ?k3 ?k4 ?k5 ?_; (case k1 => k_asm); (case k2 => k_asm); (case k3 => k_inst); (case k4 => first | assumption | exact .inl rfl); (case k5 => with_reducible assumption); k_whole))))
local macro_rules | `(tactic| wtm_at "compareOp Is ref ref") => `(tactic| (k_here; (with_reducible show wpAny _ _ (compareOp CmpOp.Is (Value.ref _) (Value.ref _)) _ _ _); k_dflt (refine' is_news ?a ?b ?n ?c ?_; (case a => k_asm); (case b => k_mem); (case n => k_mem); (case c => first | assumption | exact Ne.symm (by assumption)); k_whole)))
local macro_rules | `(tactic| wtm_at "compareOp IsNot ref ref") => `(tactic| (k_here; (with_reducible show wpAny _ _ (compareOp CmpOp.IsNot (Value.ref _) (Value.ref _)) _ _ _); k_dflt (refine' isnot_news ?a ?b ?n ?c ?_; (case a => k_asm); (case b => k_mem); (case n => k_mem); (case c => first | assumption | exact Ne.symm (by assumption)); k_whole)))
local macro_rules | `(tactic| wtm_at "call ref") => `(tactic| (k_here; (with_reducible show wpAny _ _ (call (Value.ref _) _) _ _ _); refine Stop.mk ?_))
local macro_rules | `(tactic| wtm_at "truthy ref") => `(tactic| (k_here; refine Stop.mk ?_))
local macro_rules | `(tactic| wtm_at "delItem ref int") => `(tactic| (k_here; refine Stop.mk ?_))
local macro_rules | `(tactic| wtm_at "call type:list") => `(tactic| (k_here; (with_reducible show wpAny _ _ (call (Value.type "list") [Value.ref _]) _ _ _); refine Stop.mk ?_))
local macro_rules | `(tactic| wtm_at "binaryOp Mod int int") => `(tactic| (k_here; refine PyProof.Rows.mod_int (by with_reducible assumption) ?_))
local macro_rules | `(tactic| wtm_at "subscriptTail") => `(tactic| (k_here; (with_reducible show wpAny _ _ (subscriptTail _ _ (Value.ref _) (Value.int _ _)) _ _ _); refine Stop.mk ?_))
local macro_rules | `(tactic| wtm_at "subscriptTail Name BinOp ref int") => `(tactic| (k_here; refine Stop.mk ?_))
local macro_rules | `(tactic| wtm_at "execs cons") => `(tactic| (k_here; (with_reducible show wpAny _ _ (execs (Stmt.Assign [Expr.Tuple _ _ _] (Expr.Call (Expr.Name (PySem.Str.ofString "_law_due") _) _ _ _) _ :: _) _) _ _ _); refine Stop.mk ?_))
section
variable {w : World} {A₀ : Around} {s : Shared} {L a : Addr} {h₀ base : Heap} {m mg mb : Str → Option Value} {mean : ExcName → Option Value} {loose : List Str}
  {dp un : Nat} {gd : Option (List Code)} {cn : Str} {cs : Scope} {ccd : Value} {cl : List (Str × Addr)} {outer : List Env} {E : Value → Shared → Prop}
set_option maxHeartbeats 4000000 in
/-- no trouble -/
theorem law11N {Q : Flow → Shared → Prop} {xs : List Addr} {news : List (Addr × Obj)} {r1 : Int} {t1 : Tok} {Ln : Addr} {n1 : Nat}
  (B : Below callerA h₀ [] h₀) (F : Fr h₀ L s.heap m) (X : (Mine.hd.heap_39 w.params).In h₀) (T : Top Mine.hd.view_39 loose mean mg mb h₀)
  (N : News h₀ L s.heap news) (hLn : (Ln, listOf (xs.map Value.ref).toArray n1) ∈ news) (hr : r1 = 0 ∨ r1 = 1 ∧ xs = []) (v1 : m "trouble" = some (.int r1 t1)) (v2 : m "new" = some (.ref Ln))
  (next : ∀ h' tk', Fr h₀ L h' m → News h₀ L h' news → Box (wpAny (model pw w) (callerA.deeper (lawEnv w L a ccd)) (execs ((bodyAt w 367).drop 14) (lawEnv w L a ccd)) Q E {s with heap := h', toks := tk'}))
  : Box (wpAny (model pw w) (callerA.deeper (lawEnv w L a ccd)) (execs ((bodyAt w 367).drop 11) (lawEnv w L a ccd)) Q E s) := by
  refine execs_consB (by with_unfolding_all rfl) ?_
  revert next
  refine scope_eq (x := scopeAt w 367) (by with_unfolding_all rfl) fun e => ?_
  unfold lawEnv
  rw [e]
  intro next
  clear e
  refine ⟨?_⟩
  have hV := viewL_eq (m := m) [(Str.ofString "trouble", .int r1 t1), (Str.ofString "new", .ref Ln)] ⟨v1, v2, trivial⟩
  have F1 := fr_viewL hV F
  dsimp only [viewL] at F1
  clear F v1 v2
  try dsimp only
  rcases hr with rfl | ⟨rfl, rfl⟩
  · repeat (first | (k_unfold; (try dsimp only)) | walk1 | (dsimp only; walk1))
    unfold Stop
    rename Fr _ _ _ _ => F8
    rename News _ _ _ _ => N8
    exact (next _ _ (fr_back hV F8) N8).go
  · repeat (first | (k_unfold; (try dsimp only)) | walk1 | (dsimp only; walk1))
    unfold Stop
    rename News _ _ _ _ => N9
    refine wpAny_truthy_list (items := #[]) (N9.isList hLn) (by decide) ?_
    repeat (first | (k_unfold; (try dsimp only)) | walk1 | (dsimp only; walk1))
    unfold Stop
    rename Fr _ _ _ _ => F8
    rename News _ _ _ _ => N8
    exact (next _ _ (fr_back hV F8) N8).go
set_option maxHeartbeats 4000000 in
/-- the place is at the top -/
theorem law11U {Q : Flow → Shared → Prop} {news : List (Addr × Obj)} {t1 : Tok} {at_ : Addr}
  (B : Below callerA h₀ [] h₀) (F : Fr h₀ L s.heap m) (X : (Mine.hd.heap_39 w.params).In h₀) (T : Top Mine.hd.view_39 loose mean mg mb h₀)
  (N : News h₀ L s.heap news) (v1 : m "trouble" = some (.int 2 t1)) (v2 : m "top" = some (.ref at_))
  (next : ∀ m' h' tk', m' "target" = some (.ref at_) → m' "parent" = some .none → m' "kids" = some .none → m' "place" = some .none → (∀ y : Str, y ≠ Str.ofString "target" → y ≠ Str.ofString "parent" → y ≠ Str.ofString "kids" → y ≠ Str.ofString "place" → m' y = m y) →
    Fr h₀ L h' m' → News h₀ L h' news → Box (wpAny (model pw w) (callerA.deeper (lawEnv w L a ccd)) (execs ((bodyAt w 367).drop 14) (lawEnv w L a ccd)) Q E {s with heap := h', toks := tk'}))
  : Box (wpAny (model pw w) (callerA.deeper (lawEnv w L a ccd)) (execs ((bodyAt w 367).drop 11) (lawEnv w L a ccd)) Q E s) := by
  refine execs_consB (by with_unfolding_all rfl) ?_
  revert next
  refine scope_eq (x := scopeAt w 367) (by with_unfolding_all rfl) fun e => ?_
  unfold lawEnv
  rw [e]
  intro next
  clear e
  refine ⟨?_⟩
  have hV := viewL_eq (m := m) [(Str.ofString "trouble", .int 2 t1), (Str.ofString "top", .ref at_)] ⟨v1, v2, trivial⟩
  have F1 := fr_viewL hV F
  dsimp only [viewL] at F1
  clear F v1 v2
  try dsimp only
  repeat (first | (k_unfold; (try dsimp only)) | walk1 | (dsimp only; walk1))
  unfold Stop
  rename Fr _ _ _ _ => F8
  rename News _ _ _ _ => N8
  refine (next _ _ _ ?_ ?_ ?_ ?_ (fun y h1 h2 h3 h4 => ?_) F8 (fun p hp => N8 p (.tail _ hp))).go
  · rw [if_neg (by decide), if_neg (by decide), if_neg (by decide), if_pos rfl]
  · rw [if_neg (by decide), if_neg (by decide), if_pos rfl]
  · rw [if_neg (by decide), if_pos rfl]
  · rw [if_pos rfl]
  · rw [if_neg h4, if_neg h3, if_neg h2, if_neg h1]
    exact congrFun hV y
set_option maxHeartbeats 4000000 in
/-- its parent does not know the place any longer -/
theorem law11V {Q : Flow → Shared → Prop} {rest : List (Addr × Obj)} {t1 u : Tok} {am dm lm : Addr} {mes : List DictEntry} {mn nl p : Nat} {css : List Addr}
  (B : Below callerA h₀ [] h₀) (F : Fr h₀ L s.heap m) (X : (Mine.hd.heap_39 w.params).In h₀) (T : Top Mine.hd.view_39 loose mean mg mb h₀)
  (N : News h₀ L s.heap ((lm, listOf (css.map Value.ref).toArray nl) :: rest)) (hne : ∀ q ∈ rest, q.1 ≠ lm) (m1 : (am, instObj 247 dm) ∈ rest) (m2 : (dm, dictOf mes mn) ∈ rest) (m7 : mes.length ≤ 60) (m9 : getL "children" mes = some (some (.ref lm))) (hp : p < css.length) (hcs : css.length ≤ 10)
  (v1 : m "trouble" = some (.int 3 t1)) (v2 : m "middle" = some (.ref am)) (v3 : m "place" = some (.int ((p : Nat) : Int) u))
  (next : ∀ K n' m' h' tk', (∀ q ∈ rest, q.1 < K) → m' "kids" = some (.ref K) → m' "place" = some .none → (∀ y : Str, y ≠ Str.ofString "kids" → y ≠ Str.ofString "place" → m' y = m y) →
    Fr h₀ L h' m' → News h₀ L h' ((K, listOf ((css.eraseIdx p).map Value.ref).toArray n') :: (lm, listOf ((css.eraseIdx p).map Value.ref).toArray (nl + 1)) :: rest) → Box (wpAny (model pw w) (callerA.deeper (lawEnv w L a ccd)) (execs ((bodyAt w 367).drop 14) (lawEnv w L a ccd)) Q E {s with heap := h', toks := tk'}))
  : Box (wpAny (model pw w) (callerA.deeper (lawEnv w L a ccd)) (execs ((bodyAt w 367).drop 11) (lawEnv w L a ccd)) Q E s) := by
  refine execs_consB (by with_unfolding_all rfl) ?_
  revert next
  refine scope_eq (x := scopeAt w 367) (by with_unfolding_all rfl) fun e => ?_
  unfold lawEnv
  rw [e]
  intro next
  clear e
  refine ⟨?_⟩
  have hV := viewL_eq (m := m) [(Str.ofString "trouble", .int 3 t1), (Str.ofString "middle", .ref am), (Str.ofString "place", .int ((p : Nat) : Int) u)] ⟨v1, v2, v3, trivial⟩
  have F1 := fr_viewL hV F
  dsimp only [viewL] at F1
  clear F v1 v2 v3
  try dsimp only
  repeat (first | (k_unfold; (try dsimp only)) | walk1 | (dsimp only; walk1))
  unfold Stop
  rename Fr _ _ _ _ => F9
  rename News _ _ _ _ => N9
  refine del_refs F9 N9 hne hp (by omega) fun h2 F2 N2 => ?_
  clear F9 N9
  have hl2 : (css.eraseIdx p).length ≤ 10 := by rw [List.length_eraseIdx]; split <;> omega
  repeat (first | (k_unfold; (try dsimp only)) | walk1 | (dsimp only; walk1))
  unfold Stop
  rename Fr _ _ _ _ => F9
  rename News _ _ _ _ => N9
  refine copy_refs F9 N9 (.head _) (by omega) fun K c h3 F3 N3 lt3 => ?_
  clear F9 N9
  repeat (first | (k_unfold; (try dsimp only)) | walk1 | (dsimp only; walk1))
  unfold Stop
  rename Fr _ _ _ _ => F8
  rename News _ _ _ _ => N8
  refine (next K _ _ _ _ (fun q hq => lt3 q (.tail _ hq)) ?_ ?_ (fun y h1 h2 => ?_) F8 (fun p hp => N8 p (.tail _ hp))).go
  · rw [if_pos rfl]
  · rw [if_neg (by decide), if_pos rfl]
  · rw [if_neg h1, if_neg h2]
    exact congrFun hV y
set_option maxHeartbeats 4000000 in
/-- a new thing that another tree has -/
theorem law11T {Q : Flow → Shared → Prop} {ns : List Sm} {rest : List (Addr × Obj)} {t1 : Tok} {oX oD : Obj} {D Ln : Addr} {n n1 : Nat} {vs : List Value}
  (B : Below callerA h₀ [] h₀) (F : Fr h₀ L s.heap m) (X : (Mine.hd.heap_39 w.params).In h₀) (T : Top Mine.hd.view_39 loose mean mg mb h₀)
  (N : News h₀ L s.heap ((D, listOf vs.toArray n) :: (L + 1 + 1, oX) :: rest)) (hD : ∀ p ∈ (L + 1 + 1, oX) :: rest, p.1 ≠ D) (hc2 : (L + 1, oD) ∈ rest) (dD : oD.data = .cell (some (.ref D))) (hv : Digs vs)
  (hLn : (Ln, listOf ((ns.map Sm.x).map Value.ref).toArray n1) ∈ rest) (hns : 1 ≤ ns.length ∧ ns.length ≤ 4) (okn : ∀ sm ∈ ns, SmOk (Gl rest) sm none)
  (v1 : m "trouble" = some (.int 1 t1)) (v2 : m "new" = some (.ref Ln))
  (next : ∀ (j : Nat) sm H dH hl hes hn hn2 m' h' tk' news', ns[j]? = some sm → (∀ p ∈ (L + 1 + 1, oX) :: rest, p.1 < dH) → dH < H → H < hl → Fr h₀ L h' m' → News h₀ L h' ((H, instObj 247 dH) :: (dH, dictOf hes hn) :: (hl, listOf [Value.ref sm.x].toArray hn2) :: news') → NodeEs hes hl →
    Keep [sm.d] ((L + 1 + 1, oX) :: rest) news' → (∀ p ∈ news', p.1 < dH) → SmOk (Gl news') sm (some (.ref H)) → m' "taken" = some (.ref sm.x) → m' "holder" = some (.ref H) → (∀ y : Str, y ≠ Str.ofString "taken" → y ≠ Str.ofString "holder" → m' y = m y) →
    Box (wpAny (model pw w) (callerA.deeper (lawEnv w L a ccd)) (execs ((bodyAt w 367).drop 14) (lawEnv w L a ccd)) Q E {s with heap := h', toks := tk'}))
  : Box (wpAny (model pw w) (callerA.deeper (lawEnv w L a ccd)) (execs ((bodyAt w 367).drop 11) (lawEnv w L a ccd)) Q E s) := by
  have hml : (ns.map Sm.x).length = ns.length := List.length_map ..
  have lk5 : (((ns.map Sm.x).length : Nat) : Int) ≠ 0 := by omega
  refine execs_consB (by with_unfolding_all rfl) ?_
  revert next
  refine scope_eq (x := scopeAt w 367) (by with_unfolding_all rfl) fun e => ?_
  unfold lawEnv
  rw [e]
  intro next
  clear e
  refine ⟨?_⟩
  have hV := viewL_eq (m := m) [(Str.ofString "trouble", .int 1 t1), (Str.ofString "new", .ref Ln)] ⟨v1, v2, trivial⟩
  have F1 := fr_viewL hV F
  dsimp only [viewL] at F1
  clear F v1 v2
  try dsimp only
  repeat (first | (k_unfold; (try dsimp only)) | walk1 | (dsimp only; walk1))
  unfold Stop
  rename Fr _ _ _ _ => F9
  rename News _ _ _ _ => N9
  refine wpAny_truthy_list (N9.isList (.tail _ (.tail _ hLn))) (by rw [List.size_toArray, List.length_map]; omega) ?_
  have hemp : (!((ns.map Sm.x).map Value.ref).toArray.isEmpty) = true := by
    cases ns with
    | nil => exact absurd hns.1 (by decide)
    | cons a r => rfl
  rw [hemp]
  clear hemp
  repeat (first | (k_unfold; (try dsimp only)) | walk1 | (dsimp only; walk1))
  unfold Stop
  refine take_news B F9 X T rfl N9 (UpdF.head hD) hv (by decide) (by decide) (by ktr_room) (by ktr_units) fun r tt vs2 n3 h2 tk2 r0 r1 hv2 F2 N2 => ?_
  clear F9 N9 hv
  have b0 := Int.fmod_nonneg_of_pos r (show (0 : Int) < (((ns.map Sm.x).length : Nat) : Int) by omega)
  have b1 := Int.fmod_lt_of_pos r (show (0 : Int) < (((ns.map Sm.x).length : Nat) : Int) by omega)
  obtain ⟨p, hp⟩ : ∃ p : Nat, r.fmod (((ns.map Sm.x).length : Nat) : Int) = (p : Int) := ⟨_, (Int.toNat_of_nonneg b0).symm⟩
  have hpl : p < ns.length := by omega
  repeat (first | (k_unfold; (try dsimp only)) | walk1 | (dsimp only; walk1))
  unfold Stop
  rename Fr _ _ _ _ => F9
  rename News _ _ _ _ => N9
  simp only [hp]
  obtain ⟨sm, hsm⟩ : ∃ sm, ns[p]? = some sm := ⟨_, List.getElem?_eq_getElem hpl⟩
  refine item_litK (vs := (ns.map Sm.x).map Value.ref) (v := .ref sm.x) (N9.isList (.tail _ (.tail _ hLn))) (by omega) (by omega) (by rw [Int.toNat_natCast, List.getElem?_map, List.getElem?_map, hsm]; rfl) ?_ (by with_unfolding_all rfl)
  clear r0 r1 b0 b1 hp
  repeat (first | (k_unfold; (try dsimp only)) | walk1 | (dsimp only; walk1))
  unfold Stop
  rename Fr _ _ _ _ => F8
  rename News _ _ _ _ => N8
  have ok := okn sm (List.mem_of_getElem? hsm)
  refine node_sms (js := [sm]) B F8 X T rfl N8 (.head _) (fun q hq => ?_) (List.pairwise_singleton _ _) (by simp) (by decide) (by ktr_room) (by ktr_units) fun H dH hl hes hn hn2 news' h4 tk4 lt4 d1 d2 F4 N4 nes kp adr okH => ?_
  · rw [List.mem_singleton.mp hq]
    exact ok.mono fun _ _ h => .tail _ (.tail _ (.tail _ h))
  have kp' : Keep [sm.d] ((L + 1 + 1, oX) :: rest) news' := fun q hq hn => kp q (.tail _ (.tail _ hq)) hn
  have lt' : ∀ q ∈ (L + 1 + 1, oX) :: rest, q.1 < dH := fun q hq => lt4 q (.tail _ (.tail _ hq))
  have ltn : ∀ q ∈ news', q.1 < dH := fun q hq => by
    obtain ⟨z, hz, e⟩ := List.mem_map.mp (adr q hq)
    rw [← show z.1 = q.1 from e]
    exact lt4 z hz
  have okH' := okH sm (.head _)
  have next2 := fun m' h' tk' => next p sm H dH hl hes hn hn2 m' h' tk' news' hsm lt' d1 d2
  clear next kp adr okH lt4 F8 N8
  repeat (first | (k_unfold; (try dsimp only)) | walk1 | (dsimp only; walk1))
  unfold Stop
  rename Fr _ _ _ _ => F8
  rename News _ _ _ _ => N8
  refine (next2 _ _ _ F8 N8 nes kp' ltn okH' ?_ ?_ (fun y h1 h2 => ?_)).go
  · rw [if_neg (by decide), if_pos rfl]
  · rw [if_pos rfl]
  · rw [if_neg h2, if_neg h1]
    exact congrFun hV y
end
end TX_Law11
-- Law9
section TX_Law9
local macro_rules | `(tactic| wtm_at "call ref") => `(tactic| (k_here; (with_reducible show wpAny _ _ (call (Value.ref 355) _) _ _ _); refine Stop.mk ?_))
local macro_rules | `(tactic| wtm_at "call type:str") => `(tactic| (k_here; refine Stop.mk ?_))
local macro_rules | `(tactic| wtm_at "call builtin:len") => `(tactic| (k_here; (with_reducible show wpAny _ _ (call (Value.builtin "len") [Value.ref _]) _ _ _); k_dflt (refine' len_refs ?k1 ?k2 ?_; (case k1 => kmk_list); (case k2 => ((try simp only [List.length_take, List.length_drop, List.length_append, List.length_cons, List.length_nil, List.length_reverse, List.length_map]); omega)); k_whole)))
local macro_rules | `(tactic| wtm_at "getAttr ref") => `(tactic| (k_here; (with_reducible show wpAny _ _ (getAttr (Value.ref _) (PySem.Str.ofString "was_changed") _) _ _ _); k_dflt (refine' get_chg_none ?k1 ?k2 ?k3 ?k4 ?k5 ?_; (case k1 => k_asm); (case k2 => k_asm); (case k3 => k_inst); (case k4 => first | assumption | exact .inl rfl); (case k5 => with_reducible assumption); k_whole)))
local macro_rules | `(tactic| wtm_at "getAttr ref") => `(tactic| (k_here; (with_reducible show wpAny _ _ (getAttr (Value.ref _) (PySem.Str.ofString "parent") _) _ _ _); k_dflt (first
  | (refine' get_par_none ?k1 ?k2 ?k3 ?k4 ?k5 ?_; (case k1 => k_asm); (case k2 => k_asm); (case k3 => k_inst); (case k4 => first | assumption | exact .inl rfl); (case k5 => with_reducible assumption); k_whole)
  | (refine' get_par_ref ?k1 ?k2 ?k3 ?k4 ?k5 ?_; (case k1 => k_asm); (case k2 => k_asm); (case k3 => k_inst); (case k4 => first | assumption | exact .inl rfl); (case k5 => with_reducible assumption); k_whole))))
local macro_rules | `(tactic| wtm_at "compareOp Is ref ref") => `(tactic| (k_here; (with_reducible show wpAny _ _ (compareOp CmpOp.Is (Value.ref _) (Value.ref _)) _ _ _); k_dflt (refine' is_news ?a ?b ?n ?c ?_; (case a => k_asm); (case b => k_mem); (case n => k_mem); (case c => first | assumption | exact Ne.symm (by assumption)); k_whole)))
local macro_rules | `(tactic| wtm_at "compareOp IsNot ref ref") => `(tactic| (k_here; (with_reducible show wpAny _ _ (compareOp CmpOp.IsNot (Value.ref _) (Value.ref _)) _ _ _); k_dflt (refine' isnot_news ?a ?b ?n ?c ?_; (case a => k_asm); (case b => k_mem); (case n => k_mem); (case c => first | assumption | exact Ne.symm (by assumption)); k_whole)))
local macro_rules | `(tactic| wtm_at "call ref") => `(tactic| (k_here; (with_reducible show wpAny _ _ (call (Value.ref 343) _) _ _ _); refine Stop.mk ?_))
local macro_rules | `(tactic| wtm_at "binaryOp Mod int int") => `(tactic| (k_here; refine PyProof.Rows.mod_int (by with_reducible assumption) ?_))
local macro_rules | `(tactic| wtm_at "subscriptTail") => `(tactic| (k_here; (with_reducible show wpAny _ _ (subscriptTail _ _ (Value.ref _) (Value.int _ _)) _ _ _); refine Stop.mk ?_))
local macro_rules | `(tactic| wtm_at "subscriptTail Name Name ref int") => `(tactic| (k_here; refine Stop.mk ?_))
local macro_rules | `(tactic| wtm_at "execs cons") => `(tactic| (k_here; (with_reducible show wpAny _ _ (execs (Stmt.If _ _ _ _ :: _) _) _ _ _); refine Stop.mk ?_))
section
variable {w : World} {A₀ : Around} {s : Shared} {L a : Addr} {h₀ base : Heap} {m mg mb : Str → Option Value} {mean : ExcName → Option Value} {loose : List Str}
  {dp un : Nat} {gd : Option (List Code)} {cn : Str} {cs : Scope} {ccd : Value} {cl : List (Str × Addr)} {outer : List Env} {E : Value → Shared → Prop}
set_option maxHeartbeats 4000000 in
theorem law9 {Q : Flow → Shared → Prop} {cs' : List Addr} {rest : List (Addr × Obj)} {oX oD : Obj} {D kl am : Addr} {n n2 : Nat} {vs : List Value}
  (B : Below callerA h₀ [] h₀) (F : Fr h₀ L s.heap m) (X : (Mine.hd.heap_39 w.params).In h₀) (T : Top Mine.hd.view_39 loose mean mg mb h₀)
  (N : News h₀ L s.heap ((D, listOf vs.toArray n) :: (L + 1 + 1, oX) :: rest)) (hD : ∀ p ∈ (L + 1 + 1, oX) :: rest, p.1 ≠ D) (hc2 : (L + 1, oD) ∈ rest) (dD : oD.data = .cell (some (.ref D))) (hv : Digs vs)
  (hkl : (kl, listOf (cs'.map Value.ref).toArray n2) ∈ rest) (hcs : 1 ≤ cs'.length ∧ cs'.length ≤ 4)
  (v1 : m "kids" = some (.ref kl)) (v2 : m "middle" = some (.ref am))
  (next : ∀ p tx m' vs' n' h' tk', p < cs'.length → cs'[p]? = some tx → (∃ u, m' "place" = some (.int ((p : Nat) : Int) u)) → m' "target" = some (.ref tx) → m' "parent" = some (.ref am) → m' "taken" = some .none → m' "holder" = some .none →
    (∀ y : Str, y ≠ Str.ofString "place" → y ≠ Str.ofString "target" → y ≠ Str.ofString "parent" → y ≠ Str.ofString "taken" → y ≠ Str.ofString "holder" → m' y = m y) → Digs vs' → Fr h₀ L h' m' → News h₀ L h' ((D, listOf vs'.toArray n') :: (L + 1 + 1, oX) :: rest) →
    Box (wpAny (model pw w) (callerA.deeper (lawEnv w L a ccd)) (execs ((bodyAt w 367).drop 11) (lawEnv w L a ccd)) Q E {s with heap := h', toks := tk'}))
  : Box (wpAny (model pw w) (callerA.deeper (lawEnv w L a ccd)) (execs ((bodyAt w 367).drop 9) (lawEnv w L a ccd)) Q E s) := by
  have lk5 : ((cs'.length : Nat) : Int) ≠ 0 := by omega
  refine execs_consB (by with_unfolding_all rfl) ?_
  revert next
  refine scope_eq (x := scopeAt w 367) (by with_unfolding_all rfl) fun e => ?_
  unfold lawEnv
  rw [e]
  intro next
  clear e
  refine ⟨?_⟩
  have hV := viewL_eq (m := m) [(Str.ofString "kids", .ref kl), (Str.ofString "middle", .ref am)] ⟨v1, v2, trivial⟩
  have F1 := fr_viewL hV F
  dsimp only [viewL] at F1
  clear F v1 v2
  try dsimp only
  repeat (first | (k_unfold; (try dsimp only)) | walk1 | (dsimp only; walk1))
  unfold Stop
  rename Fr _ _ _ _ => F9
  rename News _ _ _ _ => N9
  refine take_news B F9 X T rfl N9 (UpdF.head hD) hv (by decide) (by decide) (by ktr_room) (by ktr_units) fun r tt vs2 n3 h2 tk2 r0 r1 hv2 F2 N2 => ?_
  clear F9 N9 hv
  have b0 := Int.fmod_nonneg_of_pos r (show (0 : Int) < ((cs'.length : Nat) : Int) by omega)
  have b1 := Int.fmod_lt_of_pos r (show (0 : Int) < ((cs'.length : Nat) : Int) by omega)
  obtain ⟨p, hp⟩ : ∃ p : Nat, r.fmod ((cs'.length : Nat) : Int) = (p : Int) := ⟨_, (Int.toNat_of_nonneg b0).symm⟩
  have hpl : p < cs'.length := by omega
  repeat (first | (k_unfold; (try dsimp only)) | walk1 | (dsimp only; walk1))
  unfold Stop
  rename Fr _ _ _ _ => F9
  rename News _ _ _ _ => N9
  rw [hp] at F9
  simp only [hp]
  obtain ⟨tx, htx⟩ : ∃ tx, cs'[p]? = some tx := ⟨_, List.getElem?_eq_getElem hpl⟩
  refine item_litK (vs := cs'.map Value.ref) (v := .ref tx) (N9.isList (.tail _ (.tail _ hkl))) (by omega) (by omega) (by rw [Int.toNat_natCast, List.getElem?_map, htx]; rfl) ?_ (by with_unfolding_all rfl)
  clear r0 r1 b0 b1 hp
  repeat (first | (k_unfold; (try dsimp only)) | walk1 | (dsimp only; walk1))
  unfold Stop
  rename Fr _ _ _ _ => F8
  rename News _ _ _ _ => N8
  refine (next p tx _ vs2 n3 _ _ hpl htx ?_ ?_ ?_ ?_ ?_ (fun y h1 h2 h3 h4 h5 => ?_) hv2 F8 (fun p hp => N8 p ?_)).go
  · exact ⟨_, by rw [if_neg (by decide), if_neg (by decide), if_neg (by decide), if_neg (by decide), if_pos rfl]⟩
  · rw [if_neg (by decide), if_neg (by decide), if_neg (by decide), if_pos rfl]
  · rw [if_neg (by decide), if_neg (by decide), if_pos rfl]
  · rw [if_neg (by decide), if_pos rfl]
  · rw [if_pos rfl]
  · rw [if_neg h5, if_neg h4, if_neg h3, if_neg h2, if_neg h1]
    exact congrFun hV y
  · exact .tail _ hp
end
end TX_Law9
-- LawE
section TX_LawE
section
variable {w : World} {A₀ : Around} {s : Shared} {L a : Addr} {h₀ : Heap} {m mg mb : Str → Option Value} {mean : ExcName → Option Value} {loose : List Str} {ccd : Value} {E : Value → Shared → Prop}

set_option maxHeartbeats 4000000 in
theorem fin_list {Q : Flow → Shared → Prop} {t : Mid} {ns sms : List Sm} {rst tgt : Sm} {rest : List (Addr × Obj)} {oX : Obj} {v0 : Option Value} {vt vh : Value} {g mv : Bool} {tt : Tok} {par : Sm → Option Value} {hd Ln l K : Addr} {n1 n2 n3 n4 : Nat} {kk : List Addr}
  (B : Below callerA h₀ [] h₀) (F : Fr h₀ L s.heap m) (X : (Mine.hd.heap_39 w.params).In h₀) (T : Top Mine.hd.view_39 loose mean mg mb h₀)
  (N : News h₀ L s.heap ((L + 1 + 1, oX) :: rest)) (hoX : oX.data = .cell v0) (hne : ∀ p ∈ rest, p.1 ≠ L + 1 + 1)
  (mid : MidOk (Gl rest) t (sms.map Sm.x) (if mv = true then some (.bool true) else none) 60) (hs : ∀ sm ∈ sms, ∃ par, SmOk (Gl rest) sm par) (hr : SmOk (Gl rest) rst (some (.ref t.at_))) (hx : rst.x = t.rest) (hn : sms.length ≤ 40)
  (hhd : (hd, listOf ((ns.map Sm.x).map Value.ref).toArray n1) ∈ rest) (hLn : (Ln, listOf ((ns.map Sm.x).map Value.ref).toArray n2) ∈ rest) (hns : ns.length ≤ 10)
  (hl : (l, listOf ((sms.map Sm.x).map Value.ref).toArray n3) ∈ rest) (hK : (K, listOf (kk.map Value.ref).toArray n4) ∈ rest) (hkk : kk.length ≤ 40) (hmv : mv = decide (kk.length < (sms.map Sm.x).length))
  (okn : ∀ sm ∈ ns, SmOk (Gl rest) sm (par sm)) (okt : SmOk (Gl rest) tgt (some (.ref t.am))) (htt : tgt.x ≠ t.at_)
  (htk : (vt = .none ∧ vh = .none ∧ ∀ sm ∈ ns, par sm = if sm.x ∈ sms.map Sm.x then some (.ref t.am) else none) ∨
    (∃ (T : Addr) (H dH hl' : Addr) (hes : List DictEntry) (hn hn2 : Nat), vt = .ref T ∧ vh = .ref H ∧ (∃ C d, (T, instObj C d) ∈ rest) ∧ (∀ sm ∈ ns, par sm = if sm.x = T then some (.ref H) else if sm.x ∈ sms.map Sm.x then some (.ref t.am) else none) ∧
      (H, instObj 247 dH) ∈ rest ∧ (dH, dictOf hes hn) ∈ rest ∧ (hl', listOf [Value.ref T].toArray hn2) ∈ rest ∧ getL "children" hes = some (some (.ref hl')) ∧ getL "was_changed" hes = some none ∧ hes.length ≤ 60))
  (v1 : m "went" = some (.bool g)) (v2 : m "goes" = some (.bool g)) (v3 : m "told" = some .none) (v4 : m "handed" = some (.ref hd)) (v5 : m "new" = some (.ref Ln)) (v6 : m "top" = some (.ref t.at_))
  (v7 : m "text" = some (.str (Txt.join "" [rst.txt, Txt.join "" (sms.map Sm.txt)]) tt)) (v8 : m "rest" = some (.ref t.rest)) (v9 : m "middle" = some (.ref t.am)) (v10 : m "due" = some (.ref l))
  (v11 : m "kids" = some (.ref K)) (v12 : m "target" = some (.ref tgt.x)) (v13 : m "parent" = some (.ref t.am)) (v14 : m "taken" = some vt) (v15 : m "holder" = some vh)
  (hE : PassesOwn (model pw w) (callerA.deeper (lawEnv w L a ccd)) (lawEnv w L a ccd) E)
  (ret : ∀ h' tk' m', Fr h₀ L h' m' → Q (.ret (.bool true)) {s with heap := h', toks := tk'})
  : Box (wpAny (model pw w) (callerA.deeper (lawEnv w L a ccd)) (execs ((bodyAt w 367).drop 18) (lawEnv w L a ccd)) Q E s) := by
  have hds : ∀ c ∈ sms.map Sm.x, ∃ C d, (c, instObj C d) ∈ rest := fun c hc => by
    obtain ⟨sm, hsm, rfl⟩ := List.mem_map.mp hc
    obtain ⟨p, o⟩ := hs sm hsm
    obtain ⟨_, _, g1, _⟩ := o.ex
    exact ⟨_, _, g1⟩
  have hsl : (sms.map Sm.x).length ≤ 40 := by rw [List.length_map]; exact hn
  refine law18 B F X T N mid hs hr hx hn hhd hLn hns (.inr ⟨l, n3, rfl, hl⟩) v1 v2 v3 v4 v5 v6 v7 v8 v9 v10 fun h2 tk2 F2 N2 => ?_
  refine law20 (t := t) (ns := ns) (vd := .ref l) (vt := vt) (vh := vh) (par := par) B F2 X T N2 hoX hne hLn hns okn (.inr ⟨l, sms.map Sm.x, n3, rfl, hl, hsl, hds, ?_⟩) v5 v15 v14 v10 v9 hE fun m' h' tk' o' hm F3 N3 => ?_
  · rcases htk with ⟨a1, a2, a3⟩ | ⟨T0, H, _, _, _, _, _, a1, a2, a3, a4, _⟩
    · exact .inl ⟨a1, a3⟩
    · exact .inr ⟨T0, H, a1, a2, a3, a4⟩
  have up := fun (p : Addr × Obj) (h : p ∈ rest) => List.mem_cons_of_mem (L + 1 + 1, o') h
  have mid' : MidOk (Gl ((L + 1 + 1, o') :: rest)) t (sms.map Sm.x) (if mv = true then some (.bool true) else none) 60 := by
    obtain ⟨⟨mes, n, pes, n', nl, nt, m1, m2, m3, m4, m5, m6, m7⟩, hne⟩ := mid
    exact ⟨⟨mes, n, pes, n', nl, nt, up _ m1, up _ m2, up _ m3, up _ m4, up _ m5, up _ m6, m7⟩, hne⟩
  have hr' := hr.mono (G' := Gl ((L + 1 + 1, o') :: rest)) fun _ _ h => up _ h
  have okt' := okt.mono (G' := Gl ((L + 1 + 1, o') :: rest)) fun _ _ h => up _ h
  have q := fun (y : Str) (v : Option Value) (hy : y ≠ Str.ofString "above") (h : m y = v) => (hm y hy).trans h
  rcases htk with ⟨rfl, rfl, _⟩ | ⟨T0, H, dH, hl', hes, hn', hn2, rfl, rfl, _, _, b1, b2, b3, b4, b5, b6⟩
  · exact law21L (mv := mv) (ds := sms.map Sm.x) (kk := kk) B F3 X T N3 mid' hr' okt' htt (up _ hl) (up _ hK) hsl hkk hmv (q _ _ (by decide) v10) (q _ _ (by decide) v11) (q _ _ (by decide) v9) (q _ _ (by decide) v6) ((q _ _ (by decide) v8).trans (by rw [hx])) (q _ _ (by decide) v12) (q _ _ (by decide) v13) (q _ _ (by decide) v15) ret
  · exact law21H (mv := mv) (ds := sms.map Sm.x) (kk := kk) B F3 X T N3 mid' hr' okt' htt (up _ hl) (up _ hK) hsl hkk hmv (q _ _ (by decide) v10) (q _ _ (by decide) v11) (q _ _ (by decide) v9) (q _ _ (by decide) v6) ((q _ _ (by decide) v8).trans (by rw [hx])) (q _ _ (by decide) v12) (q _ _ (by decide) v13) (q _ _ (by decide) v15) (q _ _ (by decide) v14) (up _ b1) (up _ b2) (up _ b3) b4 b5 b6 ret

set_option maxHeartbeats 4000000 in
theorem fin_none {Q : Flow → Shared → Prop} {t : Mid} {ns sms : List Sm} {rst : Sm} {rest : List (Addr × Obj)} {oX : Obj} {v0 : Option Value} {g : Bool} {tt : Tok} {hd Ln : Addr} {n1 n2 : Nat}
  (B : Below callerA h₀ [] h₀) (F : Fr h₀ L s.heap m) (X : (Mine.hd.heap_39 w.params).In h₀) (T : Top Mine.hd.view_39 loose mean mg mb h₀)
  (N : News h₀ L s.heap ((L + 1 + 1, oX) :: rest)) (hoX : oX.data = .cell v0) (hne : ∀ p ∈ rest, p.1 ≠ L + 1 + 1)
  (mid : MidOk (Gl rest) t (sms.map Sm.x) none 60) (hs : ∀ sm ∈ sms, ∃ par, SmOk (Gl rest) sm par) (hr : SmOk (Gl rest) rst (some (.ref t.at_))) (hx : rst.x = t.rest) (hn : sms.length ≤ 40)
  (hhd : (hd, listOf ((ns.map Sm.x).map Value.ref).toArray n1) ∈ rest) (hLn : (Ln, listOf ((ns.map Sm.x).map Value.ref).toArray n2) ∈ rest) (hns : ns.length ≤ 10) (okn : ∀ sm ∈ ns, SmOk (Gl rest) sm none)
  (v1 : m "went" = some (.bool g)) (v2 : m "goes" = some (.bool g)) (v3 : m "told" = some .none) (v4 : m "handed" = some (.ref hd)) (v5 : m "new" = some (.ref Ln)) (v6 : m "top" = some (.ref t.at_))
  (v7 : m "text" = some (.str (Txt.join "" [rst.txt, Txt.join "" (sms.map Sm.txt)]) tt)) (v8 : m "rest" = some (.ref t.rest)) (v9 : m "middle" = some (.ref t.am)) (v10 : m "due" = some .none)
  (v11 : m "kids" = some .none) (v12 : m "target" = some (.ref t.at_)) (v13 : m "parent" = some .none) (v14 : m "taken" = some .none) (v15 : m "holder" = some .none)
  (hE : PassesOwn (model pw w) (callerA.deeper (lawEnv w L a ccd)) (lawEnv w L a ccd) E)
  (ret : ∀ h' tk' m', Fr h₀ L h' m' → Q (.ret (.bool true)) {s with heap := h', toks := tk'})
  : Box (wpAny (model pw w) (callerA.deeper (lawEnv w L a ccd)) (execs ((bodyAt w 367).drop 18) (lawEnv w L a ccd)) Q E s) := by
  refine law18 B F X T N mid hs hr hx hn hhd hLn hns (.inl rfl) v1 v2 v3 v4 v5 v6 v7 v8 v9 v10 fun h2 tk2 F2 N2 => ?_
  refine law20 (t := t) (ns := ns) (vd := .none) (vt := .none) (vh := .none) (par := fun _ => none) B F2 X T N2 hoX hne hLn hns okn (.inl ⟨rfl, rfl, fun _ _ => rfl⟩) v5 v15 v14 v10 v9 hE fun m' h' tk' o' hm F3 N3 => ?_
  have up := fun (p : Addr × Obj) (h : p ∈ rest) => List.mem_cons_of_mem (L + 1 + 1, o') h
  have mid' : MidOk (Gl ((L + 1 + 1, o') :: rest)) t (sms.map Sm.x) none 60 := by
    obtain ⟨⟨mes, n, pes, n', nl, nt, m1, m2, m3, m4, m5, m6, m7⟩, hne⟩ := mid
    exact ⟨⟨mes, n, pes, n', nl, nt, up _ m1, up _ m2, up _ m3, up _ m4, up _ m5, up _ m6, m7⟩, hne⟩
  have hr' := hr.mono (G' := Gl ((L + 1 + 1, o') :: rest)) fun _ _ h => up _ h
  have q := fun (y : Str) (v : Option Value) (hy : y ≠ Str.ofString "above") (h : m y = v) => (hm y hy).trans h
  exact law21U B F3 X T N3 mid' hr' (q _ _ (by decide) v10) (q _ _ (by decide) v11) (q _ _ (by decide) v9) (q _ _ (by decide) v6) ((q _ _ (by decide) v8).trans (by rw [hx])) (q _ _ (by decide) v12) (q _ _ (by decide) v13) (q _ _ (by decide) v15) ret
end
section
variable {w : World} {A₀ : Around} {s : Shared} {L a : Addr} {h₀ base : Heap} {m mg mb : Str → Option Value} {mean : ExcName → Option Value} {loose : List Str}
  {dp un : Nat} {gd : Option (List Code)} {cn : Str} {cs : Scope} {ccd : Value} {cl : List (Str × Addr)} {outer : List Env} {E : Value → Shared → Prop}

end
end TX_LawE
-- LawF
section TX_LawF
/-- the tree, a place in it, the new things: as the law's try finds them -/
structure BuiltG (c : Addr) (par : Sm → Option Value) (cs : List Addr) (ns ks : List Sm) (rst : Sm) (t : Mid) (news : List (Addr × Obj)) : Prop where
  okn : ∀ sm ∈ ns, SmOk (Gl news) sm (par sm)
  okk : ∀ sm ∈ ks, SmOk (Gl news) sm (some (.ref t.am))
  okr : SmOk (Gl news) rst (some (.ref t.at_))
  rx : rst.x = t.rest
  mid : MidOk (Gl news) t cs none 20
  dj : (ns ++ ks ++ [rst]).Pairwise Disj
  ap : ∀ sm ∈ ns ++ ks ++ [rst], Apart sm t
  nr : ∀ sm ∈ ns ++ ks ++ [rst], sm.x ≠ t.at_
  cl : ∀ sm ∈ ns ++ ks ++ [rst], @LT.lt Nat _ c sm.lo
theorem MidOk.mono {G G' : Where} {t : Mid} {cs : List Addr} {wc : Option Value} {b b' : Nat} (M : MidOk G t cs wc b) (k : ∀ a o, G a o → G' a o) (hb : b ≤ b') : MidOk G' t cs wc b' := by
  obtain ⟨⟨mes, n, pes, n', nl, nt, m1, m2, m3, m4, m5, m6, m7, m8, m9⟩, hne⟩ := M
  exact ⟨⟨mes, n, pes, n', nl, nt, k _ _ m1, k _ _ m2, k _ _ m3, k _ _ m4, k _ _ m5, k _ _ m6, Nat.le_trans m7 hb, Nat.le_trans m8 hb, m9⟩, hne⟩
theorem SmOk.offc {news : List (Addr × Obj)} {sm : Sm} {par : Option Value} {c : Addr} (o : SmOk (Gl news) sm par) (h : @LT.lt Nat _ c sm.lo) : SmOk (Gl (Off [c] news)) sm par :=
  o.keeps fun _ _ b1 _ hm => offD2 hm (Nat.ne_of_gt (Nat.lt_of_lt_of_le h b1))
theorem offc {news : List (Addr × Obj)} {c a : Addr} {oX o : Obj} {v : Option Value} (fn : ∀ a o o', (a, o) ∈ news → (a, o') ∈ news → o = o') (hc : (c, oX) ∈ news) (hX : oX.data = .cell v) (h : (a, o) ∈ news) (hd : ∀ v, o.data ≠ .cell v) : (a, o) ∈ Off [c] news :=
  offD2 h fun e => by
    subst e
    have e2 := fn _ _ _ h hc
    subst e2
    exact hd _ hX
theorem MidOk.offc {news : List (Addr × Obj)} {c : Addr} {oX : Obj} {v : Option Value} {t : Mid} {cs : List Addr} {wc : Option Value} {b : Nat} (fn : ∀ a o o', (a, o) ∈ news → (a, o') ∈ news → o = o') (hc : (c, oX) ∈ news) (hX : oX.data = .cell v) (M : MidOk (Gl news) t cs wc b) : MidOk (Gl (Off [c] news)) t cs wc b := by
  obtain ⟨⟨mes, n, pes, n', nl, nt, m1, m2, m3, m4, m5, m6, m7⟩, hne⟩ := M
  exact ⟨⟨mes, n, pes, n', nl, nt, Mine.offc fn hc hX m1 (fun _ e => nomatch e), Mine.offc fn hc hX m2 (fun _ e => nomatch e), Mine.offc fn hc hX m3 (fun _ e => nomatch e), Mine.offc fn hc hX m4 (fun _ e => nomatch e), Mine.offc fn hc hX m5 (fun _ e => nomatch e), Mine.offc fn hc hX m6 (fun _ e => nomatch e), m7⟩, hne⟩
theorem pw_disj {l : List Sm} (h : l.Pairwise Disj) : ∀ a ∈ l, ∀ b ∈ l, a ≠ b → Disj a b := fun a ha b hb ne => by
  obtain ⟨i, hi, rfl⟩ := List.mem_iff_getElem.mp ha
  obtain ⟨j, hj, rfl⟩ := List.mem_iff_getElem.mp hb
  rcases Nat.lt_trichotomy i j with q | q | q
  · exact List.pairwise_iff_getElem.mp h i j hi hj q
  · subst q; exact absurd rfl ne
  · exact (List.pairwise_iff_getElem.mp h j i hj hi q).symm
/-- where the new things go, as things -/
def smsAt (b : Bool) (k : Nat) (cs ins : List Sm) : List Sm := if b = true then cs.take (k + 1) ++ ins.reverse ++ cs.drop (k + 1) else cs.take k ++ ins ++ cs.drop k
theorem smsAt_x (b : Bool) (k : Nat) (cs ins : List Sm) : (smsAt b k cs ins).map Sm.x = csAt b k (cs.map Sm.x) (ins.map Sm.x) := by
  unfold smsAt csAt
  cases b <;> simp
theorem smsAt_mem {b : Bool} {k : Nat} {cs ins : List Sm} {sm : Sm} : sm ∈ smsAt b k cs ins ↔ sm ∈ cs ∨ sm ∈ ins := by
  unfold smsAt
  cases b with
  | true =>
    simp only [if_true, List.mem_append, List.mem_reverse]
    conv => rhs; rw [← List.take_append_drop (k + 1) cs, List.mem_append]
    constructor
    · rintro ((h | h) | h) <;> simp [h]
    · rintro ((h | h) | h) <;> simp [h]
  | false =>
    simp only [Bool.false_eq_true, if_false, List.mem_append]
    conv => rhs; rw [← List.take_append_drop k cs, List.mem_append]
    constructor
    · rintro ((h | h) | h) <;> simp [h]
    · rintro ((h | h) | h) <;> simp [h]
theorem smsAt_len (b : Bool) (k : Nat) (cs ins : List Sm) : (smsAt b k cs ins).length = cs.length + ins.length := by
  unfold smsAt
  cases b <;> simp <;> omega
theorem ordOf_map {α β : Type} (f : α → β) (b : Bool) (xs : List α) : (ordOf b xs).map f = ordOf b (xs.map f) := by
  unfold ordOf
  cases b <;> simp
theorem ordOf_len {α : Type} (b : Bool) (xs : List α) : (ordOf b xs).length = xs.length := by
  unfold ordOf
  cases b <;> simp
theorem ordOf_mem {α : Type} {b : Bool} {xs : List α} {x : α} : x ∈ ordOf b xs ↔ x ∈ xs := by
  unfold ordOf
  cases b <;> simp
theorem ordOf_pw {b : Bool} {xs : List Sm} (h : xs.Pairwise Disj) : (ordOf b xs).Pairwise Disj := by
  unfold ordOf
  cases b with
  | false => exact h
  | true => exact List.pairwise_reverse.mpr (h.imp fun d => d.symm)
theorem BuiltG.mono {c : Addr} {par : Sm → Option Value} {cs : List Addr} {ns ks : List Sm} {rst : Sm} {t : Mid} {news news' : List (Addr × Obj)} (G : BuiltG c par cs ns ks rst t news) (h : ∀ p ∈ news, p ∈ news') : BuiltG c par cs ns ks rst t news' :=
  ⟨fun sm hs => (G.okn sm hs).mono fun _ _ hm => h _ hm, fun sm hs => (G.okk sm hs).mono fun _ _ hm => h _ hm, G.okr.mono fun _ _ hm => h _ hm, G.rx, G.mid.mono (fun _ _ hm => h _ hm) (Nat.le_refl _), G.dj, G.ap, G.nr, G.cl⟩
section
variable {c : Addr} {par : Sm → Option Value} {cs : List Addr} {ns ks : List Sm} {rst : Sm} {t : Mid} {news : List (Addr × Obj)}
theorem BuiltG.rx_of (G : BuiltG c par cs ns ks rst t news) {sm : Sm} (h : sm ∈ ns ++ ks ++ [rst]) : sm.lo ≤ sm.x ∧ sm.x < sm.hi := by
  rcases List.mem_append.mp h with h | h
  · rcases List.mem_append.mp h with h | h
    · exact (G.okn sm h).rx
    · exact (G.okk sm h).rx
  · rw [List.mem_singleton.mp h]; exact G.okr.rx
theorem BuiltG.inj (G : BuiltG c par cs ns ks rst t news) {a b : Sm} (ha : a ∈ ns ++ ks ++ [rst]) (hb : b ∈ ns ++ ks ++ [rst]) (e : a.x = b.x) : a = b := by
  by_cases q : a = b
  · exact q
  · have d := pw_disj G.dj a ha b hb q
    have ra := G.rx_of ha
    have rb := G.rx_of hb
    exact absurd e (d.ne ra.1 ra.2 rb.1 rb.2)
theorem BuiltG.nk (G : BuiltG c par cs ns ks rst t news) {a b : Sm} (ha : a ∈ ns) (hb : b ∈ ks) : a.x ≠ b.x := fun e => by
  have d := (List.pairwise_append.mp (List.pairwise_append.mp G.dj).1).2.2 a ha b hb
  have ra := (G.okn a ha).rx
  have rb := (G.okk b hb).rx
  exact d.ne ra.1 ra.2 rb.1 rb.2 e
theorem BuiltG.stage (G : BuiltG c par (ks.map Sm.x) ns ks rst t news) {p : Nat} {tgt : Sm} {goods : List Sm} (hp : ks[p]? = some tgt) (hg : ∀ sm ∈ goods, sm ∈ ns ∧ par sm = none) (hpw : goods.Pairwise Disj) (hks : ks.length ≤ 4) (hgl : goods.length ≤ 4)
    (fn : ∀ a o o', (a, o) ∈ news → (a, o') ∈ news → o = o') : Stage t tgt p (ks.map Sm.x) goods news := by
  have hm : tgt ∈ ks := List.mem_of_getElem? hp
  have inn : ∀ sm ∈ ns, sm ∈ ns ++ ks ++ [rst] := fun sm h => List.mem_append_left _ (List.mem_append_left _ h)
  have ink : ∀ sm ∈ ks, sm ∈ ns ++ ks ++ [rst] := fun sm h => List.mem_append_left _ (List.mem_append_right _ h)
  have nk := (List.pairwise_append.mp (List.pairwise_append.mp G.dj).1)
  refine ⟨G.okk tgt hm, fun sm h => ?_, List.pairwise_append.mpr ⟨hpw, List.pairwise_singleton _ _, fun a ha b hb => ?_⟩, fun sm h => ?_, by rw [List.getElem?_map, hp]; rfl, ?_, fun sm h hx => ?_, fun cc hc => ?_, by rw [List.length_map]; omega, by omega, fn, G.mid⟩
  · obtain ⟨h1, h2⟩ := hg sm h
    have := G.okn sm h1
    rw [h2] at this
    exact this
  · rw [List.mem_singleton.mp hb]
    exact nk.2.2 a (hg a ha).1 tgt hm
  · rcases List.mem_append.mp h with h | h
    · exact G.ap sm (inn sm (hg sm h).1)
    · rw [List.mem_singleton.mp h]; exact G.ap tgt (ink tgt hm)
  · rw [List.Nodup, List.pairwise_map]
    exact (List.Pairwise.and_mem.mp nk.2.1).imp fun ⟨ha, hb, d⟩ e => d.ne (G.okk _ ha).rx.1 (G.okk _ ha).rx.2 (G.okk _ hb).rx.1 (G.okk _ hb).rx.2 e
  · obtain ⟨k, hk, e⟩ := List.mem_map.mp hx
    exact G.nk (hg sm h).1 hk e.symm
  · obtain ⟨k, hk, rfl⟩ := List.mem_map.mp hc
    obtain ⟨_, _, g1, _⟩ := (G.okk k hk).ex
    exact ⟨_, _, g1⟩
end
section
variable {w : World} {A₀ : Around} {s : Shared} {L a : Addr} {h₀ base : Heap} {m mg mb : Str → Option Value} {mean : ExcName → Option Value} {loose : List Str}
  {dp un : Nat} {gd : Option (List Code)} {cn : Str} {cs : Scope} {ccd : Value} {cl : List (Str × Addr)} {outer : List Env} {E : Value → Shared → Prop}

end
end TX_LawF
-- LawG
section TX_LawG
theorem scope_fn (w : World) : (scopeAt w 367).kind = .function := by with_unfolding_all rfl
section
variable {w : World} {A₀ : Around} {s : Shared} {L a : Addr} {h₀ : Heap} {m mg mb : Str → Option Value} {mean : ExcName → Option Value} {loose : List Str} {ccd : Value} {E : Value → Shared → Prop}
/-- what a taken thing's holder is -/
structure HeldBy (news : List (Addr × Obj)) (t : Mid) (ns : List Sm) (x H : Addr) : Prop where
  ex : ∃ dH hl hes hn hn2, (H, instObj 247 dH) ∈ news ∧ (dH, dictOf hes hn) ∈ news ∧ (hl, listOf [Value.ref x].toArray hn2) ∈ news ∧ getL "children" hes = some (some (.ref hl)) ∧ getL "was_changed" hes = some none ∧ hes.length ≤ 60 ∧
    hl ≠ t.lm ∧ dH ≠ t.dm ∧ dH ≠ t.lm ∧ dH ≠ t.dt ∧ ∀ sm ∈ ns, sm.d ≠ dH
set_option maxHeartbeats 4000000 in
theorem endL {Q : Flow → Shared → Prop} {t : Mid} {ns ks : List Sm} {rst tgt : Sm} {rest : List (Addr × Obj)} {oX : Obj} {v0 : Option Value} {b : Bool} {vt vh : Value} {par : Sm → Option Value} {Ln kl : Addr} {n1 n2 p : Nat} {u : Tok}
  (B : Below callerA h₀ [] h₀) (F : Fr h₀ L s.heap m) (X : (Mine.hd.heap_39 w.params).In h₀) (T : Top Mine.hd.view_39 loose mean mg mb h₀)
  (N : News h₀ L s.heap ((L + 1 + 1, oX) :: rest)) (hoX : oX.data = .cell v0) (hne : ∀ p ∈ rest, p.1 ≠ L + 1 + 1)
  (G : BuiltG (L + 1 + 1) par (ks.map Sm.x) ns ks rst t rest) (htx : rst.txt = Txt.join "" [Str.ofString "" ++ Str.ofString "s"])
  (hLn : (Ln, listOf ((ns.map Sm.x).map Value.ref).toArray n1) ∈ rest) (hkl : (kl, listOf ((ks.map Sm.x).map Value.ref).toArray n2) ∈ rest) (hL1 : Ln ≠ t.lm) (hL2 : kl ≠ t.lm) (hns : ns.length ≤ 4) (hks : ks.length ≤ 4) (hp : ks[p]? = some tgt)
  (htk : (vt = .none ∧ vh = .none ∧ ∀ sm ∈ ns, par sm = none) ∨ ∃ tk H, tk ∈ ns ∧ vt = .ref tk.x ∧ vh = .ref H ∧ (∀ sm ∈ ns, par sm = if sm.x = tk.x then some (.ref H) else none) ∧ HeldBy rest t ns tk.x H)
  (v1 : m "behind" = some (.bool b)) (v2 : m "new" = some (.ref Ln)) (v3 : m "taken" = some vt) (v4 : m "holder" = some vh) (v5 : m "place" = some (.int ((p : Nat) : Int) u)) (v6 : m "kids" = some (.ref kl)) (v7 : m "target" = some (.ref tgt.x)) (v8 : m "parent" = some (.ref t.am))
  (v9 : m "middle" = some (.ref t.am)) (v10 : m "top" = some (.ref t.at_)) (v11 : m "rest" = some (.ref t.rest))
  (hE : PassesOwn (model pw w) (callerA.deeper (lawEnv w L a ccd)) (lawEnv w L a ccd) E)
  (ret : ∀ h' tk' m', Fr h₀ L h' m' → Q (.ret (.bool true)) {s with heap := h', toks := tk'})
  : Box (wpAny (model pw w) (callerA.deeper (lawEnv w L a ccd)) (execs ((bodyAt w 367).drop 14) (lawEnv w L a ccd)) Q E s) := by
  have inn : ∀ sm ∈ ns, sm ∈ ns ++ ks ++ [rst] := fun sm h => List.mem_append_left _ (List.mem_append_left _ h)
  have ink : ∀ sm ∈ ks, sm ∈ ns ++ ks ++ [rst] := fun sm h => List.mem_append_left _ (List.mem_append_right _ h)
  have inr : rst ∈ ns ++ ks ++ [rst] := List.mem_append_right _ (.head _)
  have hmt : tgt ∈ ks := List.mem_of_getElem? hp
  have hpl : p < ks.length := by
    rcases Nat.lt_or_ge p ks.length with q | q
    · exact q
    · rw [List.getElem?_eq_none q] at hp; cases hp
  have hxl : (ns.map Sm.x).length = ns.length := List.length_map ..
  have hkl' : (ks.map Sm.x).length = ks.length := List.length_map ..
  refine law14L (xs := ns.map Sm.x) (cs' := ks.map Sm.x) (k := p) (vt := vt) (b := b) B F X T N hLn (by omega) hkl (by omega) (by omega) (fun x hx => ?_) ?_ v2 v3 v5 v6 v1 fun l i n' m2 h2 tk2 hi a2 a3 hl hm2 w1 w2 F2 N2 => ?_
  · obtain ⟨sm, hs, rfl⟩ := List.mem_map.mp hx
    obtain ⟨_, _, g1, _⟩ := (G.okn sm hs).ex
    exact ⟨_, _, g1⟩
  · rcases htk with ⟨h1, _⟩ | ⟨tk, H, h1, h2, _⟩
    · exact .inl h1
    · exact .inr ⟨_, List.mem_map.mpr ⟨tk, h1, rfl⟩, h2⟩
  have hin : i ≤ ns.length := by omega
  -- the things that come
  generalize hgd : (ordOf b ns).take i = goods
  have hgl : goods.length = i := by rw [← hgd, List.length_take, ordOf_len]; omega
  have hgx : goods.map Sm.x = (ordOf b (ns.map Sm.x)).take i := by rw [← hgd, List.map_take, ordOf_map]
  have hgn : ∀ sm ∈ goods, sm ∈ ns := fun sm h => ordOf_mem.mp (List.mem_of_mem_take (by rw [hgd]; exact h))
  have hgpw : goods.Pairwise Disj := by
    rw [← hgd]
    exact (ordOf_pw (List.pairwise_append.mp (List.pairwise_append.mp G.dj).1).1).sublist (List.take_sublist _ _)
  have hgt : ∀ sm ∈ goods, vt ≠ .ref sm.x := fun sm h => by
    obtain ⟨j, hj, e⟩ := List.mem_iff_getElem.mp h
    have hj' : j < i := by omega
    refine a2 j hj' sm.x ?_
    have e1 : (goods.map Sm.x)[j]? = some sm.x := by rw [List.getElem?_map, List.getElem?_eq_getElem hj, e]; rfl
    rw [hgx, List.getElem?_take_of_lt hj'] at e1
    exact e1
  have hgp : ∀ sm ∈ goods, par sm = none := fun sm h => by
    rcases htk with ⟨_, _, h3⟩ | ⟨tk, H, h1, h2, _, h3, _⟩
    · exact h3 sm (hgn sm h)
    · rw [h3 sm (hgn sm h), if_neg fun e => hgt sm h (by rw [h2, e])]
  have hsx := smsAt_x b p ks goods
  rw [hgx] at hsx
  rw [← hsx] at N2
  generalize hsms : smsAt b p ks goods = sms at hsx N2
  have hsm : ∀ sm ∈ sms, sm ∈ ks ∨ sm ∈ goods := fun sm h => smsAt_mem.mp (by rw [hsms]; exact h)
  have hslen : sms.length = ks.length + i := by rw [← hsms, smsAt_len, hgl]
  have G1 := G.mono (news' := (l, listOf ((sms.map Sm.x).map Value.ref).toArray n') :: rest) fun p hp => .tail _ hp
  -- the text
  refine law15 (sms := sms) (css := ks.map Sm.x) (wc := none) B F2 X T N2 (G1.mid.mono (fun _ _ h => h) (by decide)) (fun sm h => ?_) (by omega) (.inr ⟨l, n', rfl, .head _⟩) w1 ((hm2 _ (by decide) (by decide)).trans v9) fun m3 h3 tk3 u3 hm3 w3 F3 N3 => ?_
  · rcases hsm sm h with h | h
    · exact ⟨_, G1.okk sm h⟩
    · exact ⟨_, G1.okn sm (hgn sm h)⟩
  have q3 : ∀ y v, y ≠ Str.ofString "text" → y ≠ Str.ofString "due" → y ≠ Str.ofString "goes" → m y = v → m3 y = v := fun y v h1 h2 h3 e => (hm3 y h1).trans ((hm2 y h2 h3).trans e)
  have hlne : l ≠ t.lm := by
    obtain ⟨⟨_, _, _, _, _, _, _, _, m3', _⟩, _⟩ := G.mid
    exact (hl _ (.tail _ m3')).symm
  -- the try
  refine law16 (xs := ns.map Sm.x) (g := decide (i = (ns.map Sm.x).length)) (b := b) (tx := tgt.x)
    (Post := fun hd n news' => (∀ a o o', (a, o) ∈ (hd, listOf ((ns.map Sm.x).map Value.ref).toArray n) :: (L + 1 + 1, oX) :: (l, listOf ((sms.map Sm.x).map Value.ref).toArray n') :: rest → (a, o') ∈ (hd, listOf ((ns.map Sm.x).map Value.ref).toArray n) :: (L + 1 + 1, oX) :: (l, listOf ((sms.map Sm.x).map Value.ref).toArray n') :: rest → o = o') ∧ Scene b t p (ks.map Sm.x) goods ((hd, listOf ((ns.map Sm.x).map Value.ref).toArray n) :: (L + 1 + 1, oX) :: (l, listOf ((sms.map Sm.x).map Value.ref).toArray n') :: rest) news' goods.length)
    B F3 X T N3 (.tail _ hLn) (by omega) (q3 _ _ (by decide) (by decide) (by decide) v1) (q3 _ _ (by decide) (by decide) (by decide) v2) (q3 _ _ (by decide) (by decide) (by decide) v7) ?_ ?_
  · intro hd n lt s' m' Q' E' F' N' ret' exc'
    have G2 := G1.mono (news' := (hd, listOf ((ns.map Sm.x).map Value.ref).toArray n) :: (L + 1 + 1, oX) :: (l, listOf ((sms.map Sm.x).map Value.ref).toArray n') :: rest) fun p hp => .tail _ (.tail _ hp)
    have fn := news_fn N'
    have St := G2.stage hp (fun sm h => ⟨hgn sm h, hgp sm h⟩) hgpw hks (by omega) fn
    have hdne : hd ≠ t.lm := by
      obtain ⟨⟨_, _, _, _, _, _, _, _, m3', _⟩, _⟩ := G.mid
      exact Nat.ne_of_gt (lt _ (.tail _ (.tail _ m3')))
    refine put_ok (xs := ns.map Sm.x) B F' X T (scope_fn w) N' St (.head _) hdne (by rw [hgl, hgx]) (by omega) (fun x hx => ?_) (by ktr_room) (by ktr_units) (fun hg news' h' tk' F'' N'' Sc => ret' (decide_eq_true (by omega)) news' h' tk' F'' N'' ⟨fn, Sc⟩) (fun hg e news' h' tk' R U Sc => exc' (decide_eq_false (by omega)) e news' h' tk' R U ⟨fn, Sc⟩)
    rw [hgl] at hx
    have hil : i < (ns.map Sm.x).length := by
      rcases Nat.lt_or_ge i (ns.map Sm.x).length with q | q
      · exact q
      · rw [List.getElem?_eq_none (by rw [ordOf_len]; exact q)] at hx; cases hx
    obtain ⟨x', hx', hvx⟩ := a3 hil
    rw [hx'] at hx
    cases hx
    rcases htk with ⟨h1, _⟩ | ⟨tk, H, h1, h2, h3, h4, _⟩
    · rw [h1] at hvx; cases hvx
    · rw [h2] at hvx
      have ex : tk.x = x := by injection hvx
      have okt := G2.okn tk h1
      rw [h4 tk h1, if_pos rfl] at okt
      refine ⟨tk, H, ex.symm, okt, fun r hr => ?_, G.ap tk (inn tk h1)⟩
      exact pw_disj G.dj r (inn r (hgn r hr)) tk (inn tk h1) fun e => hgt r hr (by rw [h2, e])
  · intro hd n m4 news' h4 tk4 lt4 ⟨fn0, Sc⟩ w4 w5 w6 hm4 F4 N4
    have q4 : ∀ y v, y ≠ Str.ofString "handed" → y ≠ Str.ofString "told" → y ≠ Str.ofString "went" → m3 y = v → m4 y = v := fun y v h1 h2 h3 e => (hm4 y h1 h2 h3).trans e
    have q5 : ∀ y v, y ≠ Str.ofString "handed" → y ≠ Str.ofString "told" → y ≠ Str.ofString "went" → y ≠ Str.ofString "text" → y ≠ Str.ofString "due" → y ≠ Str.ofString "goes" → m y = v → m4 y = v := fun y v h1 h2 h3 h4 h5 h6 e => q4 y v h1 h2 h3 (q3 y v h4 h5 h6 e)
    have G2 := G1.mono (news' := (hd, listOf ((ns.map Sm.x).map Value.ref).toArray n) :: (L + 1 + 1, oX) :: (l, listOf ((sms.map Sm.x).map Value.ref).toArray n') :: rest) fun p hp => .tail _ (.tail _ hp)
    have St := G2.stage hp (fun sm h => ⟨hgn sm h, hgp sm h⟩) hgpw hks (by omega) fn0
    have fn4 := news_fn N4
    have hlm : t.lm ≠ L + 1 + 1 := by
      obtain ⟨⟨_, _, _, _, _, _, _, _, m3', _⟩, _⟩ := G.mid
      exact hne _ m3'
    have hdne : hd ≠ t.lm := by
      obtain ⟨⟨_, _, _, _, _, _, _, _, m3', _⟩, _⟩ := G.mid
      exact Nat.ne_of_gt (lt4 _ (.tail _ (.tail _ m3')))
    have hc1 : (L + 1 + 1, oX) ∈ news' := scene_stays St Sc (.tail _ (.head _)) (fun es n e => nomatch hoX.symm.trans (congrArg Obj.data e)) (Ne.symm hlm)
    have keepL := fun (a : Addr) (o : Obj) h1 h2 h3 h4 => offc (a := a) (o := o) fn4 hc1 hoX (scene_stays St Sc h1 h2 h3) h4
    have N5 : News h₀ L h4 ((L + 1 + 1, oX) :: Off [L + 1 + 1] news') := fun p hp => by
      rcases List.mem_cons.mp hp with rfl | hp
      · exact N4 _ hc1
      · exact N4 _ (mem_off.mp hp).1
    have hne5 : ∀ p ∈ Off [L + 1 + 1] news', p.1 ≠ L + 1 + 1 := fun p hp e => (mem_off.mp hp).2 (by rw [e]; exact .head _)
    have nk := List.pairwise_append.mp (List.pairwise_append.mp G.dj).1
    have nr := (List.pairwise_append.mp G.dj).2.2
    have doneG : ∀ sm ∈ goods, SmOk (Gl (Off [L + 1 + 1] news')) sm (some (.ref t.am)) := fun sm h => (Sc.done sm (by rw [List.take_length]; exact h)).offc (G.cl sm (inn sm (hgn sm h)))
    have keepS : ∀ q par', q ∈ ns ++ ks ++ [rst] → (∀ r ∈ goods, Disj r q) → SmOk (Gl ((hd, listOf ((ns.map Sm.x).map Value.ref).toArray n) :: (L + 1 + 1, oX) :: (l, listOf ((sms.map Sm.x).map Value.ref).toArray n') :: rest)) q par' → SmOk (Gl (Off [L + 1 + 1] news')) q par' :=
      fun q par' hq hd o => (scene_keeps St Sc (fun r hr => hd r (List.mem_of_mem_take hr)) (G.ap q hq) o).offc (G.cl q hq)
    have keepK : ∀ q ∈ ks, SmOk (Gl (Off [L + 1 + 1] news')) q (some (.ref t.am)) := fun q hq => keepS q _ (ink q hq) (fun r hr => nk.2.2 r (hgn r hr) q hq) (G2.okk q hq)
    have keepR : SmOk (Gl (Off [L + 1 + 1] news')) rst (some (.ref t.at_)) := keepS rst _ inr (fun r hr => nr r (List.mem_append_left _ (hgn r hr)) rst (.head _)) G2.okr
    have hmv : (if goods.length = 0 then none else some (Value.bool true)) = (if decide ((ks.map Sm.x).length < (sms.map Sm.x).length) = true then some (Value.bool true) else none) := by
      have h1 : (sms.map Sm.x).length = ks.length + i := by rw [List.length_map, hslen]
      rw [h1, hkl', hgl]
      by_cases q : i = 0
      · rw [if_pos q, if_neg (by rw [decide_eq_true_eq]; omega)]
      · rw [if_neg q, if_pos (by rw [decide_eq_true_eq]; omega)]
    have mid5 : MidOk (Gl (Off [L + 1 + 1] news')) t (sms.map Sm.x) (if decide ((ks.map Sm.x).length < (sms.map Sm.x).length) = true then some (Value.bool true) else none) 60 := by
      have M := Sc.mid.offc fn4 hc1 hoX
      rw [List.take_length, hgx, ← hsx, hmv] at M
      exact M.mono (fun _ _ h => h) (by omega)
    have hins : ∀ sm ∈ ns, sm.x ∈ sms.map Sm.x → sm ∈ goods := fun sm h hx => by
      obtain ⟨r, hr, e⟩ := List.mem_map.mp hx
      rcases hsm r hr with h' | h'
      · exact absurd e.symm (G.nk h h')
      · rw [← G.inj (inn r (hgn r h')) (inn sm h) e]; exact h'
    have hgs : ∀ sm ∈ goods, sm.x ∈ sms.map Sm.x := fun sm h => List.mem_map.mpr ⟨sm, by rw [← hsms]; exact smsAt_mem.mpr (.inr h), rfl⟩
    have htext : textOf sms = Txt.join "" [rst.txt, Txt.join "" (sms.map Sm.txt)] := (join_two _ _ _ (htx.trans (join_one _))).symm
    refine fin_list (sms := sms) (tgt := tgt) (mv := decide ((ks.map Sm.x).length < (sms.map Sm.x).length)) (par := fun sm => if sm.x ∈ sms.map Sm.x then some (.ref t.am) else par sm) (kk := ks.map Sm.x) (vt := vt) (vh := vh) (g := decide (i = (ns.map Sm.x).length)) (hd := hd) (Ln := Ln) (l := l) (K := kl) (n1 := n) (n2 := n1) (n3 := n') (n4 := n2)
      B F4 X T N5 hoX hne5 mid5 (fun sm h => ?_) keepR G.rx (by omega) (keepL _ _ (.head _) (fun _ _ e => nomatch congrArg Obj.data e) hdne (fun _ e => nomatch e)) (keepL _ _ (.tail _ (.tail _ (.tail _ hLn))) (fun _ _ e => nomatch congrArg Obj.data e) hL1 (fun _ e => nomatch e)) (by omega)
      (keepL _ _ (.tail _ (.tail _ (.head _))) (fun _ _ e => nomatch congrArg Obj.data e) hlne (fun _ e => nomatch e)) (keepL _ _ (.tail _ (.tail _ (.tail _ hkl))) (fun _ _ e => nomatch congrArg Obj.data e) hL2 (fun _ e => nomatch e)) (by omega) rfl (fun sm h => ?_) (keepK tgt hmt) (G.nr tgt (ink tgt hmt)) ?_
      w6 ((q4 _ _ (by decide) (by decide) (by decide) ((hm3 _ (by decide)).trans w2))) w5 w4 (q5 _ _ (by decide) (by decide) (by decide) (by decide) (by decide) (by decide) v2) (q5 _ _ (by decide) (by decide) (by decide) (by decide) (by decide) (by decide) v10)
      ((q4 _ _ (by decide) (by decide) (by decide) w3).trans (by rw [htext])) (q5 _ _ (by decide) (by decide) (by decide) (by decide) (by decide) (by decide) v11) (q5 _ _ (by decide) (by decide) (by decide) (by decide) (by decide) (by decide) v9) (q4 _ _ (by decide) (by decide) (by decide) ((hm3 _ (by decide)).trans w1))
      (q5 _ _ (by decide) (by decide) (by decide) (by decide) (by decide) (by decide) v6) (q5 _ _ (by decide) (by decide) (by decide) (by decide) (by decide) (by decide) v7) (q5 _ _ (by decide) (by decide) (by decide) (by decide) (by decide) (by decide) v8) (q5 _ _ (by decide) (by decide) (by decide) (by decide) (by decide) (by decide) v3) (q5 _ _ (by decide) (by decide) (by decide) (by decide) (by decide) (by decide) v4) hE ret
    · rcases hsm sm h with h | h
      · exact ⟨_, keepK sm h⟩
      · exact ⟨_, doneG sm h⟩
    · show SmOk _ sm (if sm.x ∈ sms.map Sm.x then some (.ref t.am) else par sm)
      by_cases q : sm.x ∈ sms.map Sm.x
      · rw [if_pos q]
        exact doneG sm (hins sm h q)
      · rw [if_neg q]
        exact keepS sm _ (inn sm h) (fun r hr => pw_disj G.dj r (inn r (hgn r hr)) sm (inn sm h) fun e => q (by rw [← e]; exact hgs r hr)) (G2.okn sm h)
    · rcases htk with ⟨h1, h2, h3⟩ | ⟨tk, H, h1, h2, h3, h4, hh⟩
      · refine .inl ⟨h1, h2, fun sm h => ?_⟩
        show (if sm.x ∈ sms.map Sm.x then some (Value.ref t.am) else par sm) = _
        rw [h3 sm h]
      · obtain ⟨dH, hl', hes, hn, hn2, b1, b2, b3, b4, b5, b6, c1, c2, c3, c4, c5⟩ := hh.ex
        refine .inr ⟨tk.x, H, dH, hl', hes, hn, hn2, h2, h3, ?_, fun sm h => ?_, keepL _ _ (.tail _ (.tail _ (.tail _ b1))) (fun _ _ e => nomatch congrArg Obj.data e) ?_ (fun _ e => nomatch e), ?_, keepL _ _ (.tail _ (.tail _ (.tail _ b3))) (fun _ _ e => nomatch congrArg Obj.data e) c1 (fun _ e => nomatch e), b4, b5, b6⟩
        · have o := keepS tk _ (inn tk h1) (fun r hr => pw_disj G.dj r (inn r (hgn r hr)) tk (inn tk h1) fun e => hgt r hr (by rw [h2, e])) (G2.okn tk h1)
          obtain ⟨_, _, g1, _⟩ := o.ex
          exact ⟨_, _, g1⟩
        · show (if sm.x ∈ sms.map Sm.x then some (Value.ref t.am) else par sm) = _
          by_cases q : sm.x = tk.x
          · rw [if_pos q, h4 sm h, if_pos q, if_neg]
            intro hx
            exact hgt sm (hins sm h hx) (by rw [h2, q])
          · rw [if_neg q, h4 sm h, if_neg q]
        · intro e
          obtain ⟨⟨_, _, _, _, _, _, _, _, m3', _⟩, _⟩ := G.mid
          have e' : H = t.lm := e
          rw [e'] at b1
          exact nomatch congrArg Obj.data (fn0 _ _ _ (.tail _ (.tail _ (.tail _ b1))) (.tail _ (.tail _ (.tail _ m3'))))
        · refine offc fn4 hc1 hoX (Sc.keep _ (.tail _ (.tail _ (.tail _ b2))) fun hm => ?_) (fun _ e => nomatch e)
          rcases List.mem_append.mp hm with hm | hm
          · obtain ⟨r, hr, e⟩ := List.mem_map.mp hm
            exact c5 r (hgn r (List.mem_of_mem_take hr)) e
          · simp only [List.mem_cons, List.not_mem_nil, or_false] at hm
            rcases hm with e | e | e
            · exact c2 e
            · exact c3 e
            · exact c4 e
end
section
variable {w : World} {A₀ : Around} {s : Shared} {L a : Addr} {h₀ base : Heap} {m mg mb : Str → Option Value} {mean : ExcName → Option Value} {loose : List Str}
  {dp un : Nat} {gd : Option (List Code)} {cn : Str} {cs : Scope} {ccd : Value} {cl : List (Str × Addr)} {outer : List Env} {E : Value → Shared → Prop}

end
end TX_LawG
-- LawH
section TX_LawH
section
variable {w : World} {A₀ : Around} {s : Shared} {L a : Addr} {h₀ : Heap} {m mg mb : Str → Option Value} {mean : ExcName → Option Value} {loose : List Str} {ccd : Value} {E : Value → Shared → Prop}
theorem map_empty {α β : Type} (f : α → β) (l : List α) : (l.map f).isEmpty = true ↔ l.map f = [] := by
  cases l <;> simp
set_option maxHeartbeats 4000000 in
theorem endU {Q : Flow → Shared → Prop} {t : Mid} {ns ks : List Sm} {rst : Sm} {rest : List (Addr × Obj)} {oX : Obj} {v0 : Option Value} {b : Bool} {Ln : Addr} {n1 : Nat}
  (B : Below callerA h₀ [] h₀) (F : Fr h₀ L s.heap m) (X : (Mine.hd.heap_39 w.params).In h₀) (T : Top Mine.hd.view_39 loose mean mg mb h₀)
  (N : News h₀ L s.heap ((L + 1 + 1, oX) :: rest)) (hoX : oX.data = .cell v0) (hne : ∀ p ∈ rest, p.1 ≠ L + 1 + 1)
  (G : BuiltG (L + 1 + 1) (fun _ => none) (ks.map Sm.x) ns ks rst t rest) (htx : rst.txt = Txt.join "" [Str.ofString "" ++ Str.ofString "s"])
  (hLn : (Ln, listOf ((ns.map Sm.x).map Value.ref).toArray n1) ∈ rest) (hns : ns.length ≤ 4) (hks : ks.length ≤ 4)
  (v1 : m "behind" = some (.bool b)) (v2 : m "new" = some (.ref Ln)) (v3 : m "taken" = some .none) (v4 : m "holder" = some .none) (v5 : m "place" = some .none) (v6 : m "kids" = some .none) (v7 : m "target" = some (.ref t.at_)) (v8 : m "parent" = some .none)
  (v9 : m "middle" = some (.ref t.am)) (v10 : m "top" = some (.ref t.at_)) (v11 : m "rest" = some (.ref t.rest))
  (hE : PassesOwn (model pw w) (callerA.deeper (lawEnv w L a ccd)) (lawEnv w L a ccd) E)
  (ret : ∀ h' tk' m', Fr h₀ L h' m' → Q (.ret (.bool true)) {s with heap := h', toks := tk'})
  : Box (wpAny (model pw w) (callerA.deeper (lawEnv w L a ccd)) (execs ((bodyAt w 367).drop 14) (lawEnv w L a ccd)) Q E s) := by
  have hxl : (ns.map Sm.x).length = ns.length := List.length_map ..
  refine law14N (xs := ns.map Sm.x) (vk := .none) (b := b) B F X T N hLn (by omega) (.inl rfl) v2 v3 v5 v6 v1 fun m2 h2 tk2 hm2 w1 w2 F2 N2 => ?_
  refine law15 (sms := ks) (css := ks.map Sm.x) (wc := none) B F2 X T N2 (G.mid.mono (fun _ _ h => h) (by decide)) (fun sm h => ⟨_, G.okk sm h⟩) (by omega) (.inl ⟨rfl, rfl⟩) w1 ((hm2 _ (by decide) (by decide)).trans v9) fun m3 h3 tk3 u3 hm3 w3 F3 N3 => ?_
  have q3 : ∀ y v, y ≠ Str.ofString "text" → y ≠ Str.ofString "due" → y ≠ Str.ofString "goes" → m y = v → m3 y = v := fun y v h1 h2 h3 e => (hm3 y h1).trans ((hm2 y h2 h3).trans e)
  refine law16 (xs := ns.map Sm.x) (g := (ns.map Sm.x).isEmpty) (b := b) (tx := t.at_) (Post := fun hd n news' => news' = (hd, listOf ((ns.map Sm.x).map Value.ref).toArray n) :: (L + 1 + 1, oX) :: rest)
    B F3 X T N3 hLn (by omega) (q3 _ _ (by decide) (by decide) (by decide) v1) (q3 _ _ (by decide) (by decide) (by decide) v2) (q3 _ _ (by decide) (by decide) (by decide) v7) ?_ ?_
  · intro hd n lt s' m' Q' E' F' N' ret' exc'
    have G2 := G.mono (news' := (hd, listOf ((ns.map Sm.x).map Value.ref).toArray n) :: (L + 1 + 1, oX) :: rest) fun p hp => .tail _ (.tail _ hp)
    refine put_no (xs := ns.map Sm.x) B F' X T (scope_fn w) N' (.head _) (fun x hx => ?_) (by ktr_room) (by ktr_units) (fun hg h' tk' F'' N'' => ret' ((map_empty _ _).mpr hg) _ h' tk' F'' N'' rfl) (fun hg e h' tk' R U => exc' (by cases hh : (ns.map Sm.x).isEmpty with
      | false => rfl
      | true => exact absurd ((map_empty _ _).mp hh) hg) e _ h' tk' R U rfl)
    obtain ⟨sm, hs, rfl⟩ := List.mem_map.mp hx
    exact turn_top G2.mid (G2.okn sm hs)
  · intro hd n m4 news' h4 tk4 lt4 hP w4 w5 w6 hm4 F4 N4
    subst hP
    have q4 : ∀ y v, y ≠ Str.ofString "handed" → y ≠ Str.ofString "told" → y ≠ Str.ofString "went" → m3 y = v → m4 y = v := fun y v h1 h2 h3 e => (hm4 y h1 h2 h3).trans e
    have q5 : ∀ y v, y ≠ Str.ofString "handed" → y ≠ Str.ofString "told" → y ≠ Str.ofString "went" → y ≠ Str.ofString "text" → y ≠ Str.ofString "due" → y ≠ Str.ofString "goes" → m y = v → m4 y = v := fun y v h1 h2 h3 h4 h5 h6 e => q4 y v h1 h2 h3 (q3 y v h4 h5 h6 e)
    have G3 := G.mono (news' := (hd, listOf ((ns.map Sm.x).map Value.ref).toArray n) :: rest) fun p hp => .tail _ hp
    have htext : textOf ks = Txt.join "" [rst.txt, Txt.join "" (ks.map Sm.txt)] := (join_two _ _ _ (htx.trans (join_one _))).symm
    refine fin_none (sms := ks) (ns := ns) (g := (ns.map Sm.x).isEmpty) (hd := hd) (Ln := Ln) (n1 := n) (n2 := n1) B F4 X T (swap2 N4) hoX (fun p hp => ?_) (G3.mid.mono (fun _ _ h => h) (by decide)) (fun sm h => ⟨_, G3.okk sm h⟩) G3.okr G.rx (by omega) (.head _) (.tail _ hLn) (by omega) G3.okn
      w6 ((q4 _ _ (by decide) (by decide) (by decide) ((hm3 _ (by decide)).trans w2))) w5 w4 (q5 _ _ (by decide) (by decide) (by decide) (by decide) (by decide) (by decide) v2) (q5 _ _ (by decide) (by decide) (by decide) (by decide) (by decide) (by decide) v10)
      ((q4 _ _ (by decide) (by decide) (by decide) w3).trans (by rw [htext])) (q5 _ _ (by decide) (by decide) (by decide) (by decide) (by decide) (by decide) v11) (q5 _ _ (by decide) (by decide) (by decide) (by decide) (by decide) (by decide) v9) (q4 _ _ (by decide) (by decide) (by decide) ((hm3 _ (by decide)).trans w1))
      (q5 _ _ (by decide) (by decide) (by decide) (by decide) (by decide) (by decide) v6) (q5 _ _ (by decide) (by decide) (by decide) (by decide) (by decide) (by decide) v7) (q5 _ _ (by decide) (by decide) (by decide) (by decide) (by decide) (by decide) v8) (q5 _ _ (by decide) (by decide) (by decide) (by decide) (by decide) (by decide) v3) (q5 _ _ (by decide) (by decide) (by decide) (by decide) (by decide) (by decide) v4) hE ret
    rcases List.mem_cons.mp hp with rfl | hp
    · exact Nat.ne_of_gt (lt4 _ (.head _))
    · exact hne p hp
set_option maxHeartbeats 4000000 in
theorem endV {Q : Flow → Shared → Prop} {t : Mid} {ns ks : List Sm} {rst tgt : Sm} {rest : List (Addr × Obj)} {oX : Obj} {v0 : Option Value} {b : Bool} {Ln K : Addr} {n1 n2 p : Nat}
  (B : Below callerA h₀ [] h₀) (F : Fr h₀ L s.heap m) (X : (Mine.hd.heap_39 w.params).In h₀) (T : Top Mine.hd.view_39 loose mean mg mb h₀)
  (N : News h₀ L s.heap ((L + 1 + 1, oX) :: rest)) (hoX : oX.data = .cell v0) (hne : ∀ p ∈ rest, p.1 ≠ L + 1 + 1)
  (G : BuiltG (L + 1 + 1) (fun _ => none) ((ks.eraseIdx p).map Sm.x) ns ks rst t rest) (htx : rst.txt = Txt.join "" [Str.ofString "" ++ Str.ofString "s"])
  (hLn : (Ln, listOf ((ns.map Sm.x).map Value.ref).toArray n1) ∈ rest) (hK : (K, listOf (((ks.eraseIdx p).map Sm.x).map Value.ref).toArray n2) ∈ rest) (hns : ns.length ≤ 4) (hks : ks.length ≤ 4) (hp : ks[p]? = some tgt)
  (v1 : m "behind" = some (.bool b)) (v2 : m "new" = some (.ref Ln)) (v3 : m "taken" = some .none) (v4 : m "holder" = some .none) (v5 : m "place" = some .none) (v6 : m "kids" = some (.ref K)) (v7 : m "target" = some (.ref tgt.x)) (v8 : m "parent" = some (.ref t.am))
  (v9 : m "middle" = some (.ref t.am)) (v10 : m "top" = some (.ref t.at_)) (v11 : m "rest" = some (.ref t.rest))
  (hE : PassesOwn (model pw w) (callerA.deeper (lawEnv w L a ccd)) (lawEnv w L a ccd) E)
  (ret : ∀ h' tk' m', Fr h₀ L h' m' → Q (.ret (.bool true)) {s with heap := h', toks := tk'})
  : Box (wpAny (model pw w) (callerA.deeper (lawEnv w L a ccd)) (execs ((bodyAt w 367).drop 14) (lawEnv w L a ccd)) Q E s) := by
  have hxl : (ns.map Sm.x).length = ns.length := List.length_map ..
  have hmt : tgt ∈ ks := List.mem_of_getElem? hp
  have hsub : ∀ sm ∈ ks.eraseIdx p, sm ∈ ks := fun sm h => List.mem_of_mem_eraseIdx h
  have hsl : (ks.eraseIdx p).length ≤ 4 := by rw [List.length_eraseIdx]; split <;> omega
  have ink : ∀ sm ∈ ks, sm ∈ ns ++ ks ++ [rst] := fun sm h => List.mem_append_left _ (List.mem_append_right _ h)
  have hnin : tgt.x ∉ (ks.eraseIdx p).map Sm.x := fun h => by
    obtain ⟨q, hq, e⟩ := List.mem_map.mp h
    rw [List.mem_eraseIdx_iff_getElem] at hq
    obtain ⟨j, hj, hjp, ej⟩ := hq
    have hpl : p < ks.length := by
      rcases Nat.lt_or_ge p ks.length with z | z
      · exact z
      · rw [List.getElem?_eq_none z] at hp; cases hp
    have ep : ks[p] = tgt := by
      rw [List.getElem?_eq_getElem hpl] at hp
      exact Option.some.inj hp
    have pw := (List.pairwise_append.mp (List.pairwise_append.mp G.dj).1).2.1
    have d : Disj q tgt := by
      rcases Nat.lt_trichotomy j p with z | z | z
      · rw [← ej, ← ep]; exact List.pairwise_iff_getElem.mp pw j p hj hpl z
      · exact absurd z hjp
      · rw [← ej, ← ep]; exact (List.pairwise_iff_getElem.mp pw p j hpl hj z).symm
    have rq := (G.okk q (by rw [← ej]; exact List.getElem_mem _)).rx
    have rt := (G.okk tgt hmt).rx
    exact d.ne rq.1 rq.2 rt.1 rt.2 e
  refine law14N (xs := ns.map Sm.x) (vk := .ref K) (b := b) B F X T N hLn (by omega) (.inr ⟨K, rfl⟩) v2 v3 v5 v6 v1 fun m2 h2 tk2 hm2 w1 w2 F2 N2 => ?_
  refine law15 (sms := ks.eraseIdx p) (css := (ks.eraseIdx p).map Sm.x) (wc := none) B F2 X T N2 (G.mid.mono (fun _ _ h => h) (by decide)) (fun sm h => ⟨_, G.okk sm (hsub sm h)⟩) (by omega) (.inr ⟨K, n2, rfl, hK⟩) w1 ((hm2 _ (by decide) (by decide)).trans v9) fun m3 h3 tk3 u3 hm3 w3 F3 N3 => ?_
  have q3 : ∀ y v, y ≠ Str.ofString "text" → y ≠ Str.ofString "due" → y ≠ Str.ofString "goes" → m y = v → m3 y = v := fun y v h1 h2 h3 e => (hm3 y h1).trans ((hm2 y h2 h3).trans e)
  refine law16 (xs := ns.map Sm.x) (g := (ns.map Sm.x).isEmpty) (b := b) (tx := tgt.x) (Post := fun hd n news' => news' = (hd, listOf ((ns.map Sm.x).map Value.ref).toArray n) :: (L + 1 + 1, oX) :: rest)
    B F3 X T N3 hLn (by omega) (q3 _ _ (by decide) (by decide) (by decide) v1) (q3 _ _ (by decide) (by decide) (by decide) v2) (q3 _ _ (by decide) (by decide) (by decide) v7) ?_ ?_
  · intro hd n lt s' m' Q' E' F' N' ret' exc'
    have G2 := G.mono (news' := (hd, listOf ((ns.map Sm.x).map Value.ref).toArray n) :: (L + 1 + 1, oX) :: rest) fun p hp => .tail _ (.tail _ hp)
    refine put_no (xs := ns.map Sm.x) B F' X T (scope_fn w) N' (.head _) (fun x hx => ?_) (by ktr_room) (by ktr_units) (fun hg h' tk' F'' N'' => ret' ((map_empty _ _).mpr hg) _ h' tk' F'' N'' rfl) (fun hg e h' tk' R U => exc' (by cases hh : (ns.map Sm.x).isEmpty with
      | false => rfl
      | true => exact absurd ((map_empty _ _).mp hh) hg) e _ h' tk' R U rfl)
    obtain ⟨sm, hs, rfl⟩ := List.mem_map.mp hx
    refine turn_lost G2.mid (G2.okn sm hs) (G2.okk tgt hmt) (fun c hc => ?_) hnin
    obtain ⟨k, hk, rfl⟩ := List.mem_map.mp hc
    obtain ⟨_, _, g1, _⟩ := (G2.okk k (hsub k hk)).ex
    exact ⟨_, _, g1⟩
  · intro hd n m4 news' h4 tk4 lt4 hP w4 w5 w6 hm4 F4 N4
    subst hP
    have q4 : ∀ y v, y ≠ Str.ofString "handed" → y ≠ Str.ofString "told" → y ≠ Str.ofString "went" → m3 y = v → m4 y = v := fun y v h1 h2 h3 e => (hm4 y h1 h2 h3).trans e
    have q5 : ∀ y v, y ≠ Str.ofString "handed" → y ≠ Str.ofString "told" → y ≠ Str.ofString "went" → y ≠ Str.ofString "text" → y ≠ Str.ofString "due" → y ≠ Str.ofString "goes" → m y = v → m4 y = v := fun y v h1 h2 h3 h4 h5 h6 e => q4 y v h1 h2 h3 (q3 y v h4 h5 h6 e)
    have G3 := G.mono (news' := (hd, listOf ((ns.map Sm.x).map Value.ref).toArray n) :: rest) fun p hp => .tail _ hp
    have htext : textOf (ks.eraseIdx p) = Txt.join "" [rst.txt, Txt.join "" ((ks.eraseIdx p).map Sm.txt)] := (join_two _ _ _ (htx.trans (join_one _))).symm
    refine fin_list (sms := ks.eraseIdx p) (ns := ns) (tgt := tgt) (mv := false) (par := fun _ => none) (kk := (ks.eraseIdx p).map Sm.x) (vt := .none) (vh := .none) (g := (ns.map Sm.x).isEmpty) (hd := hd) (Ln := Ln) (l := K) (K := K) (n1 := n) (n2 := n1) (n3 := n2) (n4 := n2) B F4 X T (swap2 N4) hoX (fun p hp => ?_) (G3.mid.mono (fun _ _ h => h) (by decide)) (fun sm h => ⟨_, G3.okk sm (hsub sm h)⟩) G3.okr G.rx (by omega) (.head _) (.tail _ hLn) (by omega)
      (.tail _ hK) (.tail _ hK) (by rw [List.length_map]; omega) (decide_eq_false (Nat.lt_irrefl _)).symm G3.okn (G3.okk tgt hmt) (G.nr tgt (ink tgt hmt)) (.inl ⟨rfl, rfl, fun sm h => ?_⟩)
      w6 ((q4 _ _ (by decide) (by decide) (by decide) ((hm3 _ (by decide)).trans w2))) w5 w4 (q5 _ _ (by decide) (by decide) (by decide) (by decide) (by decide) (by decide) v2) (q5 _ _ (by decide) (by decide) (by decide) (by decide) (by decide) (by decide) v10)
      ((q4 _ _ (by decide) (by decide) (by decide) w3).trans (by rw [htext])) (q5 _ _ (by decide) (by decide) (by decide) (by decide) (by decide) (by decide) v11) (q5 _ _ (by decide) (by decide) (by decide) (by decide) (by decide) (by decide) v9) (q4 _ _ (by decide) (by decide) (by decide) ((hm3 _ (by decide)).trans w1))
      (q5 _ _ (by decide) (by decide) (by decide) (by decide) (by decide) (by decide) v6) (q5 _ _ (by decide) (by decide) (by decide) (by decide) (by decide) (by decide) v7) (q5 _ _ (by decide) (by decide) (by decide) (by decide) (by decide) (by decide) v8) (q5 _ _ (by decide) (by decide) (by decide) (by decide) (by decide) (by decide) v3) (q5 _ _ (by decide) (by decide) (by decide) (by decide) (by decide) (by decide) v4) hE ret
    · rcases List.mem_cons.mp hp with rfl | hp
      · exact Nat.ne_of_gt (lt4 _ (.head _))
      · exact hne p hp
    · show none = if sm.x ∈ (ks.eraseIdx p).map Sm.x then some (Value.ref t.am) else none
      rw [if_neg]
      intro hx
      obtain ⟨k, hk, e⟩ := List.mem_map.mp hx
      exact G.nk h (hsub k hk) e.symm
end
section
variable {w : World} {A₀ : Around} {s : Shared} {L a : Addr} {h₀ base : Heap} {m mg mb : Str → Option Value} {mean : ExcName → Option Value} {loose : List Str}
  {dp un : Nat} {gd : Option (List Code)} {cn : Str} {cs : Scope} {ccd : Value} {cl : List (Str × Addr)} {outer : List Env} {E : Value → Shared → Prop}

end
end TX_LawH
-- LawI
section TX_LawI
section
variable {c : Addr} {ns ks : List Sm} {rst : Sm} {t : Mid} {rest : List (Addr × Obj)}
theorem Out.out {sm : Sm} {a b : Addr} (o : Out sm a) (h1 : sm.lo ≤ b) (h2 : b < sm.hi) : a ≠ b := Ne.symm (o.ne h1 h2)
/-- another tree has a new thing -/
theorem BuiltG.taken {sm : Sm} {H dH hl : Addr} {hes : List DictEntry} {hn hn2 : Nat} {oX : Obj} {v0 : Option Value} {news' : List (Addr × Obj)} (G : BuiltG c (fun _ => none) (ks.map Sm.x) ns ks rst t rest) (hsm : sm ∈ ns) (fn : ∀ a o o', (a, o) ∈ rest → (a, o') ∈ rest → o = o') (fn' : ∀ a o o', (a, o) ∈ news' → (a, o') ∈ news' → o = o')
    (hX : (c, oX) ∈ news') (hXd : oX.data = .cell v0) (kp : Keep [sm.d] rest news') (okH : SmOk (Gl news') sm (some (.ref H))) :
    BuiltG c (fun q => if q.x = sm.x then some (.ref H) else none) (ks.map Sm.x) ns ks rst t ((H, instObj 247 dH) :: (dH, dictOf hes hn) :: (hl, listOf [Value.ref sm.x].toArray hn2) :: Off [c] news') := by
  have inn : ∀ sm ∈ ns, sm ∈ ns ++ ks ++ [rst] := fun sm h => List.mem_append_left _ (List.mem_append_left _ h)
  have ink : ∀ sm ∈ ks, sm ∈ ns ++ ks ++ [rst] := fun sm h => List.mem_append_left _ (List.mem_append_right _ h)
  have inr : rst ∈ ns ++ ks ++ [rst] := List.mem_append_right _ (.head _)
  obtain ⟨_, _, _, gd, _⟩ := (G.okn sm hsm).ex
  have rd := (G.okn sm hsm).rd
  have up : ∀ p ∈ Off [c] news', p ∈ (H, instObj 247 dH) :: (dH, dictOf hes hn) :: (hl, listOf [Value.ref sm.x].toArray hn2) :: Off [c] news' := fun p hp => .tail _ (.tail _ (.tail _ hp))
  have keep : ∀ q par, q ∈ ns ++ ks ++ [rst] → Disj q sm → SmOk (Gl rest) q par → SmOk (Gl ((H, instObj 247 dH) :: (dH, dictOf hes hn) :: (hl, listOf [Value.ref sm.x].toArray hn2) :: Off [c] news')) q par := fun q par hq d o =>
    (SmOk.offc (news := news') (o.keeps fun b ob b1 b2 hm => kp (b, ob) hm fun hs => d.ne b1 b2 rd.1 rd.2 (List.mem_singleton.mp hs)) (G.cl q hq)).mono fun _ _ h => up _ h
  have nk := List.pairwise_append.mp (List.pairwise_append.mp G.dj).1
  have nr := (List.pairwise_append.mp G.dj).2.2
  have km : ∀ a o, (a, o) ∈ rest → (∀ es n, o ≠ dictOf es n) → (∀ v, o.data ≠ .cell v) → (a, o) ∈ Off [c] news' := fun a o hm hd hc => offc fn' hX hXd (kp (a, o) hm fun hs => by
    have e : a = sm.d := List.mem_singleton.mp hs
    rw [e] at hm
    exact hd _ _ (fn _ _ _ hm gd)) hc
  have kd : ∀ a o, (a, o) ∈ rest → a ≠ sm.d → (∀ v, o.data ≠ .cell v) → (a, o) ∈ Off [c] news' := fun a o hm hd hc => offc fn' hX hXd (kp (a, o) hm fun hs => hd (List.mem_singleton.mp hs)) hc
  have ap := G.ap sm (inn sm hsm)
  refine ⟨fun q hq => ?_, fun q hq => keep q _ (ink q hq) (nk.2.2 sm hsm q hq).symm (G.okk q hq), keep rst _ inr (nr sm (List.mem_append_left _ hsm) rst (.head _)).symm G.okr, G.rx, ?_, G.dj, G.ap, G.nr, G.cl⟩
  · show SmOk _ q (if q.x = sm.x then some (.ref H) else none)
    by_cases e : q.x = sm.x
    · rw [if_pos e]
      have := G.inj (inn q hq) (inn sm hsm) e
      subst this
      exact (okH.offc (G.cl q (inn q hq))).mono fun _ _ h => up _ h
    · rw [if_neg e]
      exact keep q _ (inn q hq) (pw_disj G.dj q (inn q hq) sm (inn sm hsm) fun z => e (by rw [z])) (G.okn q hq)
  · obtain ⟨⟨mes, n, pes, n', nl, nt, m1, m2, m3, m4, m5, m6, m7⟩, hne⟩ := G.mid
    exact ⟨⟨mes, n, pes, n', nl, nt, up _ (km _ _ m1 (fun _ _ e => nomatch congrArg Obj.data e) (fun _ e => nomatch e)), up _ (kd _ _ m2 (ap.dm.out rd.1 rd.2) (fun _ e => nomatch e)), up _ (km _ _ m3 (fun _ _ e => nomatch congrArg Obj.data e) (fun _ e => nomatch e)),
      up _ (km _ _ m4 (fun _ _ e => nomatch congrArg Obj.data e) (fun _ e => nomatch e)), up _ (kd _ _ m5 (ap.dt.out rd.1 rd.2) (fun _ e => nomatch e)), up _ (km _ _ m6 (fun _ _ e => nomatch congrArg Obj.data e) (fun _ e => nomatch e)), m7⟩, hne⟩
/-- the middle loses a child -/
theorem BuiltG.cut {p nl : Nat} {more : List (Addr × Obj)} (G : BuiltG c (fun _ => none) (ks.map Sm.x) ns ks rst t rest) (fn : ∀ a o o', (a, o) ∈ rest → (a, o') ∈ rest → o = o') (hm : ∀ q ∈ Off [t.lm] rest, q ∈ more) (hl : (t.lm, listOf (((ks.eraseIdx p).map Sm.x).map Value.ref).toArray nl) ∈ more) :
    BuiltG c (fun _ => none) ((ks.eraseIdx p).map Sm.x) ns ks rst t more := by
  have keep : ∀ q par, q ∈ ns ++ ks ++ [rst] → SmOk (Gl rest) q par → SmOk (Gl more) q par := fun q par hq o => o.keeps fun b ob b1 b2 hb => hm _ (offD2 hb ((G.ap q hq).lm.ne b1 b2))
  refine ⟨fun q hq => keep q _ (List.mem_append_left _ (List.mem_append_left _ hq)) (G.okn q hq), fun q hq => keep q _ (List.mem_append_left _ (List.mem_append_right _ hq)) (G.okk q hq), keep rst _ (List.mem_append_right _ (.head _)) G.okr, G.rx, ?_, G.dj, G.ap, G.nr, G.cl⟩
  obtain ⟨⟨mes, n, pes, n', nl', nt, m1, m2, m3, m4, m5, m6, m7⟩, hne⟩ := G.mid
  have k : ∀ a o, (a, o) ∈ rest → o.data ≠ (listOf ((ks.map Sm.x).map Value.ref).toArray nl').data → (a, o) ∈ more := fun a o h hd => hm _ (offD fn m3 h hd)
  exact ⟨⟨mes, n, pes, n', nl, nt, k _ _ m1 (fun e => nomatch e), k _ _ m2 (fun e => nomatch e), hl, k _ _ m4 (fun e => nomatch e), k _ _ m5 (fun e => nomatch e), hm _ (offD2 m6 (Ne.symm hne.2)), m7⟩, hne⟩
end
section
variable {w : World} {A₀ : Around} {s : Shared} {L a : Addr} {h₀ base : Heap} {m mg mb : Str → Option Value} {mean : ExcName → Option Value} {loose : List Str}
  {dp un : Nat} {gd : Option (List Code)} {cn : Str} {cs : Scope} {ccd : Value} {cl : List (Str × Addr)} {outer : List Env} {E : Value → Shared → Prop}

end
end TX_LawI
-- LawJ
section TX_LawJ
section
variable {w : World} {A₀ : Around} {s : Shared} {L a : Addr} {h₀ : Heap} {m mg mb : Str → Option Value} {mean : ExcName → Option Value} {loose : List Str} {ccd : Value} {E : Value → Shared → Prop}
set_option maxHeartbeats 4000000 in
theorem end11 {Q : Flow → Shared → Prop} {t : Mid} {ns ks : List Sm} {rst tgt : Sm} {rest : List (Addr × Obj)} {oX oD : Obj} {v0 : Option Value} {b : Bool} {D Ln kl : Addr} {n n1 n2 p : Nat} {u t1 : Tok} {vs : List Value} {r1 : Int}
  (B : Below callerA h₀ [] h₀) (F : Fr h₀ L s.heap m) (X : (Mine.hd.heap_39 w.params).In h₀) (T : Top Mine.hd.view_39 loose mean mg mb h₀)
  (N : News h₀ L s.heap ((D, listOf vs.toArray n) :: (L + 1 + 1, oX) :: rest)) (hD : ∀ p ∈ (L + 1 + 1, oX) :: rest, p.1 ≠ D) (hc2 : (L + 1, oD) ∈ rest) (dD : oD.data = .cell (some (.ref D))) (hv : Digs vs) (hoX : oX.data = .cell v0) (hne : ∀ p ∈ rest, p.1 ≠ L + 1 + 1)
  (G : BuiltG (L + 1 + 1) (fun _ => none) (ks.map Sm.x) ns ks rst t rest) (htx : rst.txt = Txt.join "" [Str.ofString "" ++ Str.ofString "s"])
  (hLn : (Ln, listOf ((ns.map Sm.x).map Value.ref).toArray n1) ∈ rest) (hkl : (kl, listOf ((ks.map Sm.x).map Value.ref).toArray n2) ∈ rest) (hL1 : Ln ≠ t.lm) (hL2 : kl ≠ t.lm) (hns : ns.length ≤ 4) (hks : ks.length ≤ 4) (hp : ks[p]? = some tgt) (hr0 : 0 ≤ r1) (hr1 : r1 < 4)
  (v1 : m "behind" = some (.bool b)) (v2 : m "new" = some (.ref Ln)) (v3 : m "taken" = some .none) (v4 : m "holder" = some .none) (v5 : m "place" = some (.int ((p : Nat) : Int) u)) (v6 : m "kids" = some (.ref kl)) (v7 : m "target" = some (.ref tgt.x)) (v8 : m "parent" = some (.ref t.am))
  (v9 : m "middle" = some (.ref t.am)) (v10 : m "top" = some (.ref t.at_)) (v11 : m "rest" = some (.ref t.rest)) (v12 : m "trouble" = some (.int r1 t1))
  (hE : PassesOwn (model pw w) (callerA.deeper (lawEnv w L a ccd)) (lawEnv w L a ccd) E)
  (ret : ∀ h' tk' m', Fr h₀ L h' m' → Q (.ret (.bool true)) {s with heap := h', toks := tk'})
  : Box (wpAny (model pw w) (callerA.deeper (lawEnv w L a ccd)) (execs ((bodyAt w 367).drop 11) (lawEnv w L a ccd)) Q E s) := by
  have fn := news_fn N
  have fnr : ∀ a o o', (a, o) ∈ rest → (a, o') ∈ rest → o = o' := fun a o o' h1 h2 => fn a o o' (.tail _ (.tail _ h1)) (.tail _ (.tail _ h2))
  have hpl : p < ks.length := by
    rcases Nat.lt_or_ge p ks.length with q | q
    · exact q
    · rw [List.getElem?_eq_none q] at hp; cases hp
  have none_case : r1 = 0 ∨ r1 = 1 ∧ ns.map Sm.x = [] → Box (wpAny (model pw w) (callerA.deeper (lawEnv w L a ccd)) (execs ((bodyAt w 367).drop 11) (lawEnv w L a ccd)) Q E s) := fun hr => by
    refine law11N (xs := ns.map Sm.x) B F X T N (.tail _ (.tail _ hLn)) hr v12 v2 fun h' tk' F' N' => ?_
    exact endL (vt := .none) (vh := .none) (par := fun _ => none) B F' X T (fun p hp => N' p (.tail _ hp)) hoX hne G htx hLn hkl hL1 hL2 hns hks hp (.inl ⟨rfl, rfl, fun _ _ => rfl⟩) v1 v2 v3 v4 v5 v6 v7 v8 v9 v10 v11 hE ret
  rcases (by omega : r1 = 0 ∨ r1 = 1 ∨ r1 = 2 ∨ r1 = 3) with rfl | rfl | rfl | rfl
  · exact none_case (.inl rfl)
  · by_cases hem : ns = []
    · exact none_case (.inr ⟨rfl, by rw [hem]; rfl⟩)
    · have hn1 : 1 ≤ ns.length := by
        rcases Nat.eq_zero_or_pos ns.length with q | q
        · exact absurd (List.length_eq_zero_iff.mp q) hem
        · exact q
      refine law11T (ns := ns) B F X T N hD hc2 dD hv hLn ⟨hn1, hns⟩ G.okn v12 v2 fun j sm H dH hl hes hn hn2 m' h' tk' news' hj lt d1 d2 F' N' nes kp ltn okH w1 w2 hm' => ?_
      have hsm : sm ∈ ns := List.mem_of_getElem? hj
      have fn' : ∀ a o o', (a, o) ∈ news' → (a, o') ∈ news' → o = o' := fun a o o' h1 h2 => news_fn N' a o o' (.tail _ (.tail _ (.tail _ h1))) (.tail _ (.tail _ (.tail _ h2)))
      have hX' : (L + 1 + 1, oX) ∈ news' := kp _ (.head _) fun hm => by
        have e : L + 1 + 1 = sm.d := List.mem_singleton.mp hm
        have h1 := G.cl sm (List.mem_append_left _ (List.mem_append_left _ hsm))
        have h2 := (G.okn sm hsm).rd.1
        rw [e] at h1
        exact Nat.lt_irrefl _ (Nat.lt_of_lt_of_le h1 h2)
      obtain ⟨_, _, _, gd, _⟩ := (G.okn sm hsm).ex
      have kl' : ∀ a o, (a, o) ∈ rest → (∀ es n, o ≠ dictOf es n) → (∀ v, o.data ≠ .cell v) → (a, o) ∈ Off [L + 1 + 1] news' := fun a o hm hd hc => offc fn' hX' hoX (kp (a, o) (.tail _ hm) fun hs => by
        have e : a = sm.d := List.mem_singleton.mp hs
        rw [e] at hm
        exact hd _ _ (fnr _ _ _ hm gd)) hc
      have ltm : ∀ a o, (a, o) ∈ rest → a < dH := fun a o hm => lt _ (.tail _ hm)
      obtain ⟨⟨_, _, _, _, _, _, _, m2', m3', _, m5', _⟩, _⟩ := id G.mid
      have q : ∀ y v, y ≠ Str.ofString "taken" → y ≠ Str.ofString "holder" → m y = v → m' y = v := fun y v h1 h2 e => (hm' y h1 h2).trans e
      refine endL (vt := .ref sm.x) (vh := .ref H) (par := fun q => if q.x = sm.x then some (.ref H) else none) (rest := (H, instObj 247 dH) :: (dH, dictOf hes hn) :: (hl, listOf [Value.ref sm.x].toArray hn2) :: Off [L + 1 + 1] news') B F' X T (fun p hp => ?_) hoX (fun p hp => ?_)
        (G.taken hsm fnr fn' hX' hoX (fun p hp hn => kp p (.tail _ hp) hn) okH) htx (.tail _ (.tail _ (.tail _ (kl' _ _ hLn (fun _ _ e => nomatch congrArg Obj.data e) (fun _ e => nomatch e))))) (.tail _ (.tail _ (.tail _ (kl' _ _ hkl (fun _ _ e => nomatch congrArg Obj.data e) (fun _ e => nomatch e))))) hL1 hL2 hns hks hp
        (.inr ⟨sm, H, hsm, rfl, rfl, fun _ _ => rfl, ⟨dH, hl, hes, hn, hn2, .head _, .tail _ (.head _), .tail _ (.tail _ (.head _)), nes.chd, nes.chg, Nat.le_trans nes.len (by decide), ?_, ?_, ?_, ?_, fun q hq => ?_⟩⟩)
        (q _ _ (by decide) (by decide) v1) (q _ _ (by decide) (by decide) v2) w1 w2 (q _ _ (by decide) (by decide) v5) (q _ _ (by decide) (by decide) v6) (q _ _ (by decide) (by decide) v7) (q _ _ (by decide) (by decide) v8) (q _ _ (by decide) (by decide) v9) (q _ _ (by decide) (by decide) v10) (q _ _ (by decide) (by decide) v11) hE ret
      · rcases List.mem_cons.mp hp with rfl | hp
        · exact N' _ (.tail _ (.tail _ (.tail _ hX')))
        rcases List.mem_cons.mp hp with rfl | hp
        · exact N' _ (.head _)
        rcases List.mem_cons.mp hp with rfl | hp
        · exact N' _ (.tail _ (.head _))
        rcases List.mem_cons.mp hp with rfl | hp
        · exact N' _ (.tail _ (.tail _ (.head _)))
        · exact N' _ (.tail _ (.tail _ (.tail _ (mem_off.mp hp).1)))
      · have hc := lt _ (.head _)
        have hc' : L + 1 + 1 < dH := hc
        rcases List.mem_cons.mp hp with rfl | hp
        · exact Nat.ne_of_gt (Nat.lt_trans hc' d1)
        rcases List.mem_cons.mp hp with rfl | hp
        · exact Nat.ne_of_gt hc'
        rcases List.mem_cons.mp hp with rfl | hp
        · exact Nat.ne_of_gt (Nat.lt_trans hc' (Nat.lt_trans d1 d2))
        · exact fun e => (mem_off.mp hp).2 (by rw [e]; exact .head _)
      · exact Nat.ne_of_gt (Nat.lt_trans (ltm _ _ m3') (Nat.lt_trans d1 d2))
      · exact Nat.ne_of_gt (ltm _ _ m2')
      · exact Nat.ne_of_gt (ltm _ _ m3')
      · exact Nat.ne_of_gt (ltm _ _ m5')
      · obtain ⟨_, _, _, gq, _⟩ := (G.okn q hq).ex
        exact Nat.ne_of_lt (ltm _ _ gq)
  · refine law11U B F X T N v12 v10 fun m' h' tk' w1 w2 w3 w4 hm' F' N' => ?_
    have q : ∀ y v, y ≠ Str.ofString "target" → y ≠ Str.ofString "parent" → y ≠ Str.ofString "kids" → y ≠ Str.ofString "place" → m y = v → m' y = v := fun y v h1 h2 h3 h4 e => (hm' y h1 h2 h3 h4).trans e
    exact endU B F' X T (fun p hp => N' p (.tail _ hp)) hoX hne G htx hLn hns hks (q _ _ (by decide) (by decide) (by decide) (by decide) v1) (q _ _ (by decide) (by decide) (by decide) (by decide) v2) (q _ _ (by decide) (by decide) (by decide) (by decide) v3) (q _ _ (by decide) (by decide) (by decide) (by decide) v4) w4 w3 w1 w2
      (q _ _ (by decide) (by decide) (by decide) (by decide) v9) (q _ _ (by decide) (by decide) (by decide) (by decide) v10) (q _ _ (by decide) (by decide) (by decide) (by decide) v11) hE ret
  · obtain ⟨⟨mes, mn, pes, pn, nl, nt, m1', m2', m3', m4', m5', m6', m7', m8', m9', _⟩, hne'⟩ := id G.mid
    have hlc : t.lm ≠ L + 1 + 1 := hne _ m3'
    have hoff : ∀ q ∈ (L + 1 + 1, oX) :: Off [t.lm] rest, q.1 ≠ t.lm := fun q hq => by
      rcases List.mem_cons.mp hq with rfl | hq
      · exact Ne.symm hlc
      · exact fun e => (mem_off.mp hq).2 (by rw [e]; exact .head _)
    refine law11V (nl := nl) (css := ks.map Sm.x) (rest := (L + 1 + 1, oX) :: Off [t.lm] rest) (p := p) B F X T (fun q hq => ?_) hoff (.tail _ (offD fnr m3' m1' (fun e => nomatch e))) (.tail _ (offD fnr m3' m2' (fun e => nomatch e))) (Nat.le_trans m7' (by decide)) m9' (by rw [List.length_map]; exact hpl) (by rw [List.length_map]; omega) v12 v9 v5 fun K n' m' h' tk' ltK w1 w2 hm' F' N' => ?_
    · rcases List.mem_cons.mp hq with rfl | hq
      · exact N _ (.tail _ (.tail _ m3'))
      rcases List.mem_cons.mp hq with rfl | hq
      · exact N _ (.tail _ (.head _))
      · exact N _ (.tail _ (.tail _ (mem_off.mp hq).1))
    have q : ∀ y v, y ≠ Str.ofString "kids" → y ≠ Str.ofString "place" → m y = v → m' y = v := fun y v h1 h2 e => (hm' y h1 h2).trans e
    rw [map_eraseIdx] at N'
    refine endV (p := p) (K := K) (rest := (K, listOf (((ks.eraseIdx p).map Sm.x).map Value.ref).toArray n') :: (t.lm, listOf (((ks.eraseIdx p).map Sm.x).map Value.ref).toArray (nl + 1)) :: Off [t.lm] rest) B F' X T (fun q hq => ?_) hoX (fun q hq => ?_)
      (G.cut (p := p) fnr (fun q hq => .tail _ (.tail _ hq)) (.tail _ (.head _))) htx (.tail _ (.tail _ (offD2 hLn hL1))) (.head _) hns hks hp (q _ _ (by decide) (by decide) v1) (q _ _ (by decide) (by decide) v2) (q _ _ (by decide) (by decide) v3) (q _ _ (by decide) (by decide) v4) w2 w1 (q _ _ (by decide) (by decide) v7) (q _ _ (by decide) (by decide) v8)
      (q _ _ (by decide) (by decide) v9) (q _ _ (by decide) (by decide) v10) (q _ _ (by decide) (by decide) v11) hE ret
    · rcases List.mem_cons.mp hq with rfl | hq
      · exact N' _ (.tail _ (.tail _ (.head _)))
      rcases List.mem_cons.mp hq with rfl | hq
      · exact N' _ (.head _)
      rcases List.mem_cons.mp hq with rfl | hq
      · exact N' _ (.tail _ (.head _))
      · exact N' _ (.tail _ (.tail _ (.tail _ hq)))
    · rcases List.mem_cons.mp hq with rfl | hq
      · exact Nat.ne_of_gt (ltK _ (.head _))
      rcases List.mem_cons.mp hq with rfl | hq
      · exact hlc
      · exact hne _ (mem_off.mp hq).1
set_option maxHeartbeats 4000000 in
theorem end9 {Q : Flow → Shared → Prop} {t : Mid} {ns ks : List Sm} {rst : Sm} {rest : List (Addr × Obj)} {oX oD : Obj} {v0 : Option Value} {b : Bool} {D Ln kl : Addr} {n n1 n2 : Nat} {t1 : Tok} {vs : List Value} {r1 : Int}
  (B : Below callerA h₀ [] h₀) (F : Fr h₀ L s.heap m) (X : (Mine.hd.heap_39 w.params).In h₀) (T : Top Mine.hd.view_39 loose mean mg mb h₀)
  (N : News h₀ L s.heap ((D, listOf vs.toArray n) :: (L + 1 + 1, oX) :: rest)) (hD : ∀ p ∈ (L + 1 + 1, oX) :: rest, p.1 ≠ D) (hc2 : (L + 1, oD) ∈ rest) (dD : oD.data = .cell (some (.ref D))) (hv : Digs vs) (hoX : oX.data = .cell v0) (hne : ∀ p ∈ rest, p.1 ≠ L + 1 + 1)
  (G : BuiltG (L + 1 + 1) (fun _ => none) (ks.map Sm.x) ns ks rst t rest) (htx : rst.txt = Txt.join "" [Str.ofString "" ++ Str.ofString "s"])
  (hLn : (Ln, listOf ((ns.map Sm.x).map Value.ref).toArray n1) ∈ rest) (hkl : (kl, listOf ((ks.map Sm.x).map Value.ref).toArray n2) ∈ rest) (hL1 : Ln ≠ t.lm) (hL2 : kl ≠ t.lm) (hns : ns.length ≤ 4) (hks : 1 ≤ ks.length ∧ ks.length ≤ 4) (hr0 : 0 ≤ r1) (hr1 : r1 < 4)
  (v1 : m "behind" = some (.bool b)) (v2 : m "new" = some (.ref Ln)) (v6 : m "kids" = some (.ref kl)) (v9 : m "middle" = some (.ref t.am)) (v10 : m "top" = some (.ref t.at_)) (v11 : m "rest" = some (.ref t.rest)) (v12 : m "trouble" = some (.int r1 t1))
  (hE : PassesOwn (model pw w) (callerA.deeper (lawEnv w L a ccd)) (lawEnv w L a ccd) E)
  (ret : ∀ h' tk' m', Fr h₀ L h' m' → Q (.ret (.bool true)) {s with heap := h', toks := tk'})
  : Box (wpAny (model pw w) (callerA.deeper (lawEnv w L a ccd)) (execs ((bodyAt w 367).drop 9) (lawEnv w L a ccd)) Q E s) := by
  refine law9 (cs' := ks.map Sm.x) B F X T N hD hc2 dD hv hkl (by rw [List.length_map]; exact hks) v6 v9 fun p tx m' vs' n' h' tk' hpl htx' w1 w2 w3 w4 w5 hm' hv' F' N' => ?_
  obtain ⟨u, w1⟩ := w1
  rw [List.getElem?_map] at htx'
  obtain ⟨tgt, htg, rfl⟩ := Option.map_eq_some_iff.mp htx'
  have q : ∀ y v, y ≠ Str.ofString "place" → y ≠ Str.ofString "target" → y ≠ Str.ofString "parent" → y ≠ Str.ofString "taken" → y ≠ Str.ofString "holder" → m y = v → m' y = v := fun y v h1 h2 h3 h4 h5 e => (hm' y h1 h2 h3 h4 h5).trans e
  exact end11 (p := p) (tgt := tgt) (r1 := r1) (b := b) B F' X T N' hD hc2 dD hv' hoX hne G htx hLn hkl hL1 hL2 hns hks.2 htg hr0 hr1 (q _ _ (by decide) (by decide) (by decide) (by decide) (by decide) v1) (q _ _ (by decide) (by decide) (by decide) (by decide) (by decide) v2) w4 w5 w1 (q _ _ (by decide) (by decide) (by decide) (by decide) (by decide) v6) w2 w3
    (q _ _ (by decide) (by decide) (by decide) (by decide) (by decide) v9) (q _ _ (by decide) (by decide) (by decide) (by decide) (by decide) v10) (q _ _ (by decide) (by decide) (by decide) (by decide) (by decide) v11) (q _ _ (by decide) (by decide) (by decide) (by decide) (by decide) v12) hE ret
end
section
variable {w : World} {A₀ : Around} {s : Shared} {L a : Addr} {h₀ base : Heap} {m mg mb : Str → Option Value} {mean : ExcName → Option Value} {loose : List Str}
  {dp un : Nat} {gd : Option (List Code)} {cn : Str} {cs : Scope} {ccd : Value} {cl : List (Str × Addr)} {outer : List Env} {E : Value → Shared → Prop}

end
end TX_LawJ
-- LawK
section TX_LawK
theorem off_fn {S : List Addr} {news : List (Addr × Obj)} (fn : ∀ a o o', (a, o) ∈ news → (a, o') ∈ news → o = o') : ∀ a o o', (a, o) ∈ Off S news → (a, o') ∈ Off S news → o = o' := fun a o o' h1 h2 => fn a o o' (mem_off.mp h1).1 (mem_off.mp h2).1
theorem Built.toG {c D : Addr} {ns ks : List Sm} {rst : Sm} {t : Mid} {news : List (Addr × Obj)} {vs : List Value} {n : Nat} {oX : Obj} {v0 : Option Value} (bt : Built ns ks rst t news) (fn : ∀ a o o', (a, o) ∈ news → (a, o') ∈ news → o = o') (mD : (D, listOf vs.toArray n) ∈ news) (mc : (c, oX) ∈ news) (hX : oX.data = .cell v0)
    (hlo : ∀ sm ∈ ns ++ ks ++ [rst], @LT.lt Nat _ D sm.lo ∧ @LT.lt Nat _ c sm.lo) (h1 : D ≠ t.lm) (h2 : D ≠ t.lt) : BuiltG c (fun _ => none) (ks.map Sm.x) ns ks rst t (Off [c] (Off [D] news)) := by
  have bt2 := bt.upd fn mD (fun sm h => (hlo sm h).1) h1 h2 (news' := Off [D] news) fun p hp hn => mem_off.mpr ⟨hp, fun hm => hn (List.mem_singleton.mp hm)⟩
  have mc2 : (c, oX) ∈ Off [D] news := offD fn mD mc (fun e => nomatch hX.symm.trans e)
  exact ⟨fun sm h => (bt2.okn sm h).offc (hlo sm (List.mem_append_left _ (List.mem_append_left _ h))).2, fun sm h => (bt2.okk sm h).offc (hlo sm (List.mem_append_left _ (List.mem_append_right _ h))).2, bt2.okr.offc (hlo rst (List.mem_append_right _ (.head _))).2, bt2.rx, bt2.mid.offc (off_fn fn) mc2 hX, bt2.dj, bt2.ap, bt2.nr, fun sm h => (hlo sm h).2⟩
theorem post_true {args : List WData} : PySem.Challenge.rw_bp5027_01.row.claim.post args (.bool true) args = true := by
  exact postW_of (by wrow_shape) (by rfl) (by decide +kernel)
local macro_rules | `(tactic| k_mem) => `(tactic| first | with_reducible assumption | assumption)
section
variable {w : World} {A₀ : Around} {s : Shared} {L a : Addr} {h₀ base : Heap} {m mg mb : Str → Option Value} {mean : ExcName → Option Value} {loose : List Str}
  {dp un : Nat} {gd : Option (List Code)} {cn : Str} {cs : Scope} {ccd : Value} {cl : List (Str × Addr)} {outer : List Env} {E : Value → Shared → Prop}
local macro_rules | `(tactic| wtm_at "call ref") => `(tactic| (k_here; k_dflt (refine' leaf_news ?k1 ?k2 ?k3 ?k4 ?kK ?k5 ?m1 ?m2 ?ka ?kb ?kc ?kd ?_; (case k1 => k_asm); (case k2 => k_asm); (case k3 => k_asm); (case k4 => k_asm); (case kK => first | exact rfl | assumption); (case k5 => k_asm); (case m1 => k_mem); (case m2 => k_mem); (case ka => decide); (case kb => decide); (case kc => ktr_room); (case kd => ktr_units); k_whole; intro x' dx' es' n' h' tk' l1' l2' F' N' le'; (try k_lt l1'); (try k_lt2 l2'); (try k_sweep))))
local macro_rules | `(tactic| wtm_at "eval ListComp") => `(tactic| (k_here; k_dflt (refine ListComp_V (F₀ := by k_asm) (by with_unfolding_all rfl) (by decide) (by rfl) (by decide) (by rfl) ?_)))
local macro_rules | `(tactic| wtm_at "exec Assign cons ListComp") => `(tactic| (k_here; k_dflt (refine Assign_ListComp_V (F₀ := by k_asm) (by rfl) (by with_unfolding_all rfl) (by with_unfolding_all rfl) (by decide) (by rfl) (by decide) (by rfl) (by rfl) (by rfl) ?_)))
local macro_rules | `(tactic| wtm_at "call ref") => `(tactic| (k_here; (with_reducible show wpAny _ _ (call (Value.ref 247) _) _ _ _); refine Stop.mk ?_))
local macro_rules | `(tactic| wtm_at "call ref") => `(tactic| (k_here; k_dflt (refine' digits_news ?k1 ?k2 ?k3 ?k4 ?kK ?k5 ?hl ?hi ?hn ?kc ?kd ?_; (case k1 => k_asm); (case k2 => k_asm); (case k3 => k_asm); (case k4 => k_asm); (case kK => first | exact rfl | assumption); (case k5 => k_asm); (case hl => k_asm); (case hi => k_asm); (case hn => assumption); (case kc => ktr_room); (case kd => ktr_units); k_whole; intro D' vs' n' h' tk' hv' hne' F' N'; (try simp only [AllNe, and_true] at hne'); (try k_sweep))))
local macro_rules | `(tactic| wtm_at "storeName") => `(tactic| (k_here; k_dflt (first
  | (refine' storeX_L ?F ?N ?_ ?a ?b; (case F => k_asm); (case N => k_asm); (case a => rfl); (case b => rfl); k_whole; intro h' F' N'; (try k_sweep))
  | (refine' storeX_C ?F ?N ?c ?U ?d ?_ ?a ?b; (case a => rfl); (case b => rfl); (case F => k_asm); (case N => k_asm); (case c => rfl); (case U => k_updF); (case d => k_asm); k_whole; intro h' o' F' N' d'; (try dsimp only at N'); (try k_sweep)))))
local macro_rules | `(tactic| wtm_at "call ref") => `(tactic| (k_here; (with_reducible show wpAny _ _ (call (Value.ref 348) _) _ _ _); refine Stop.mk ?_))
local macro_rules | `(tactic| wtm_at "call builtin:len") => `(tactic| (k_here; (with_reducible show wpAny _ _ (call (Value.builtin "len") [Value.ref _]) _ _ _); k_dflt (refine' len_refs ?k1 ?k2 ?_; (case k1 => kmk_list); (case k2 => ((try simp only [List.length_take, List.length_drop, List.length_append, List.length_cons, List.length_nil, List.length_reverse, List.length_map]); omega)); k_whole)))
local macro_rules | `(tactic| wtm_at "call type:list") => `(tactic| (k_here; (with_reducible show wpAny _ _ (call (Value.type "list") [Value.ref _]) _ _ _); refine Stop.mk ?_))
local macro_rules | `(tactic| k_updF) => `(tactic| exact UpdF.head (by assumption))
local macro_rules | `(tactic| wtm_at "binaryOp Mod int int") => `(tactic| (k_here; refine PyProof.Rows.mod_int (by first | decide | with_reducible assumption) ?_))
local macro_rules | `(tactic| wtm_at "execs cons") => `(tactic| (k_here; (with_reducible show wpAny _ _ (execs (Stmt.Assign [Expr.Name (PySem.Str.ofString "place") _] _ _ :: _) _) _ _ _); refine Stop.mk ?_))
set_option maxHeartbeats 8000000 in
theorem law_all : PySem.Challenge.rw_bp5027_01.Holds := Mine.hd (by
  k_go0
  · (try k_fold)
    rename IntsAre _ _ => hI
    rename Shared => s1
    rename World => ww
    rename ¬ _ < _ => hmost
    have hus := usLen hI hmost
    change wpAny (model pw _) _ _ _ _ _
    repeat (first | (k_unfold; (try dsimp only)) | (k_end; wrow_close) | walk1 | (dsimp only; walk1))
    rename Fr _ _ _ _ => F1
    rename News _ _ _ _ => N1
    rename IsRange _ _ _ _ _ _ _ _ => hr
    rename_i o1 o2 e1 e2 N0 X0 D vs3 n3 h7 tk3 hv3 hne h6 oD dD tkk2 r2 t2 vs2 n2 h5 tk2 r20 r21 hv2 h4 tkk1 r1 t1 vs1 n1 h3 tk1 r10 r11 hv1 h2 rr tt vs0 n0 h1 tk0 rr0 rr1 hv0 Fold Nold h0 tkx t1x u1x v1x hkeep
    clear Fold Nold hv3 hv2 hv1 hkeep
    refine LCg.CompSrc.range rfl F1 N1 hr (rng5s _) (rng5n _) (Nat.le_trans (rng5b _) (by decide)) fun g' => ?_
    refine comp_ind (SmInv (fun o => [(D, o), (_, o1), (_, oD)]) D (s1.heap.objs.size + 1 + 1) []) _ ?_ ?_ _ 0 [] _ (Nat.zero_add _) ⟨[], vs0, n0, [], rfl, rfl, rfl, hv0, (fun _ h => nomatch h), (fun _ h => nomatch h), List.Pairwise.nil, (fun _ h => nomatch h)⟩
    · intro i ys news hi hI v I oI C oC Da m₂ h tk E' hP hC hx F N off ne
      obtain ⟨sms, vs, n, rest, rfl, hlen, rfl, hv, hDr, hok, hdj, hDlo⟩ := hI
      obtain ⟨tv, rfl⟩ := hP
      have hword := natLen "n" i (by decide +kernel) (Nat.le_of_lt (Nat.lt_of_lt_of_le hi (Nat.le_trans (rng5b _) (by decide))))
      clear F1 N1
      have N9 : News _ _ h ((I, oI) :: (C, oC) :: (Da, _) :: ((D, listOf vs.toArray n) :: [(_, o1), (_, oD)] ++ rest)) := N
      simp only [List.cons_append, List.nil_append] at N off
      k_steps
      unfold Stop
      refine small_turn (by k_asm) F (by k_asm) (by k_asm) rfl N9 off ?_ hv hword hlen hDr hok hdj hDlo ⟨_, .head _⟩ (by ktr_room) (by ktr_units) fun sm news' h' tk' F' N' off' hInv => ?_
      · intro p hp
        simp only [List.mem_cons, List.not_mem_nil, or_false] at hp
        rcases hp with rfl | rfl
        · exact hne.1
        · exact hne.2
      · exact turn_go F' N' off' trivial hInv rfl
    · intro ys news hI
      obtain ⟨ns, vs, n, rest, rfl, hlen, rfl, hv, hDr, hok, hdj, hDlo⟩ := hI
      unfold LCg.FinA
      intro Ln h tk F N oLn
      have hnl := rng5b (1 + rr)
      rw [← hlen] at hnl
      clear F1 N1 hr
      have N9 : News _ _ h ((Ln, LCg.lst (ns.map fun q : Sm => Value.ref q.x)) :: (D, listOf vs.toArray n) :: (_, o1) :: (_, oD) :: rest) := N
      have N1 := swap2 N9
      have hpost := ne_post (D := D) oLn.1 hne.1 hne.2 hDr (o := LCg.lst (ns.map fun q : Sm => Value.ref q.x)) (o1 := o1) (o2 := oD)
      clear N N9
      repeat (first | (k_unfold; (try dsimp only)) | (k_end; wrow_close) | walk1 | (dsimp only; walk1))
      rename Fr _ _ _ _ => F1
      rename News _ _ _ _ => N1
      rename IsRange _ _ _ _ _ _ _ _ => hr
      rename_i rk tk9 vs9 n9 h9 tkk9 rk0 rk1 hv9 Fx Nx h8 tkx8 ta8 ua8 va8 hkp2
      clear Fx Nx hv
      refine LCg.CompSrc.range rfl F1 N1 hr (rng4s rk0 rk1) rng4n (by rw [sizeLine_eq]; omega) fun g2 => ?_
      refine comp_ind (SmInv (fun o => (D, o) :: [(Ln, LCg.lst (ns.map fun q : Sm => Value.ref q.x)), (_, o1), (_, oD)]) D (s1.heap.objs.size + 1 + 1) ns) _ ?_ ?_ _ 0 [] _ (Nat.zero_add _) ⟨[], vs9, n9, rest, rfl, rfl, rfl, hv9, hDr, (fun sm hm => hok sm (by rw [List.append_nil] at hm; exact hm)), (by rw [List.append_nil]; exact hdj), (fun sm hm => hDlo sm (by rw [List.append_nil] at hm; exact hm))⟩
      · intro i ys news hi hI v I oI C oC Da m₂ h tk E' hP hC hx F N off ne
        obtain ⟨sms, vs, n, rest₂, rfl, hlen₂, rfl, hv, hDr₂, hok₂, hdj₂, hDlo₂⟩ := hI
        obtain ⟨tv, rfl⟩ := hP
        have hword := natLen "k" i (by decide +kernel) (by omega)
        clear F1 N1 hr
        have N9 : News _ _ h ((I, oI) :: (C, oC) :: (Da, _) :: ((D, listOf vs.toArray n) :: [(Ln, LCg.lst (ns.map fun q : Sm => Value.ref q.x)), (_, o1), (_, oD)] ++ rest₂)) := N
        simp only [List.cons_append, List.nil_append] at N off
        k_steps
        unfold Stop
        refine small_turn (by k_asm) F (by k_asm) (by k_asm) rfl N9 off ?_ hv hword hlen₂ hDr₂ hok₂ hdj₂ hDlo₂ ⟨_, .tail _ (.head _)⟩ (by ktr_room) (by ktr_units) fun sm news' h' tk' F' N' off' hInv => ?_
        · intro p hp
          simp only [List.mem_cons, List.not_mem_nil, or_false] at hp
          rcases hp with rfl | rfl | rfl
          · exact Ne.symm oLn.1
          · exact hne.1
          · exact hne.2
        · exact turn_go F' N' off' trivial hInv rfl
      · intro ys news hI
        obtain ⟨ks, vs, n, rest₂, rfl, hlk, rfl, hv, hDr₂, hok₂, hdj₂, hDlo₂⟩ := hI
        unfold LCg.FinA
        intro Lk h tk F N oLk
        have hkl : 1 ≤ ks.length ∧ ks.length ≤ 4 := by rw [hlk]; omega
        clear F1 N1 hr hok hdj hDr
        have N9 : News _ _ h ((Lk, LCg.lst (ks.map fun q : Sm => Value.ref q.x)) :: (D, listOf vs.toArray n) :: (Ln, LCg.lst (ns.map fun q : Sm => Value.ref q.x)) :: (_, o1) :: (_, oD) :: rest₂) := N
        have N1 := swap2 N9
        clear N N9
        repeat (first | (k_unfold; (try dsimp only)) | (k_end; wrow_close) | walk1 | (dsimp only; walk1))
        rename Fr _ _ _ _ => F1
        rename News _ _ _ _ => N1
        rename_i T1 hT1 lt1 T2 hT2 lt2 lx ldx les lnn hh5 tk5 hle lo5 lx5 lc5 hh6 lt6
        unfold Stop
        refine rest_made (by k_asm) F1 (by k_asm) (by k_asm) rfl N1 hle lx5 (allLt_mem lo5) (by decide +kernel) (by decide) (by ktr_room) (by ktr_units) fun rst led hR tkR FR NR okr tr hlo htx => ?_
        have hst := rest_state (ns := ns) (ks := ks) (fun p hp => .tail _ (.tail _ (.tail _ (.tail _ (.tail _ (.tail _ (.tail _ hp))))))) hok₂ hdj₂ okr tr hlo
        obtain ⟨nw, NW, mD, mLk, mLn, mc1, mc2, hall, hdj3⟩ : ∃ nw, News _ _ hR nw ∧ (D, listOf vs.toArray n) ∈ nw ∧ (Lk, listOf (ks.map fun q : Sm => Value.ref q.x).toArray (ks.map fun q : Sm => Value.ref q.x).length) ∈ nw ∧ (Ln, listOf ((ns.map Sm.x).map Value.ref).toArray (ns.map fun q : Sm => Value.ref q.x).length) ∈ nw ∧ (_, o1) ∈ nw ∧ (_, oD) ∈ nw ∧ (∀ sm ∈ ns ++ ks ++ [rst], SmOk (Gl nw) sm none ∧ ∃ p ∈ nw, @LE.le Nat _ sm.hi (p.1 + 1)) ∧ (ns ++ ks ++ [rst]).Pairwise Disj :=
          ⟨_, NR, List.mem_append_right _ (.tail _ (.tail _ (.head _))), List.mem_append_right _ (.tail _ (.tail _ (.tail _ (.head _)))), List.mem_append_right _ (.tail _ (.tail _ (.tail _ (.tail _ (by rw [List.map_map]; exact .head _))))), List.mem_append_right _ (.tail _ (.tail _ (.tail _ (.tail _ (.tail _ (.head _)))))), List.mem_append_right _ (.tail _ (.tail _ (.tail _ (.tail _ (.tail _ (.tail _ (.head _))))))), hst.1, hst.2⟩
        have hDlo3 : ∀ sm ∈ ns ++ ks ++ [rst], @LT.lt Nat _ D sm.lo ∧ @LT.lt Nat _ (s1.heap.objs.size + 1 + 1) sm.lo := fun sm h => by
          rcases List.mem_append.mp h with h | h
          · exact hDlo₂ sm h
          · rw [List.mem_singleton.mp h]; exact ⟨hlo _ (.tail _ (.tail _ (.head _))), hlo _ (.tail _ (.tail _ (.tail _ (.tail _ (.tail _ (.head _))))))⟩
        clear N1 F1 NR hok₂ hdj₂ okr hst hlo tr
        repeat (first | (k_unfold; (try dsimp only)) | (k_end; wrow_close) | walk1 | (dsimp only; walk1))
        rename Fr _ _ _ _ => F1
        rename News _ _ _ _ => N1
        unfold Stop
        refine mid_made (ns := ns) (rst := rst) (by k_asm) F1 (by k_asm) (by k_asm) rfl N1 mLk hall hdj3 (by omega) (by decide) (by ktr_room) (by ktr_units) fun am dm lm mes mn mnl nw3 hM tkM hhi3 hlt3 h13 h23 FM NM nes3 kp3 okk3 okn3 => ?_
        have mD3 := kp3 _ mD (fun es n e => nomatch congrArg Obj.data e)
        have mLn3 := kp3 _ mLn (fun es n e => nomatch congrArg Obj.data e)
        have mc13 := kp3 _ mc1 (fun es n e => nomatch e1.symm.trans (congrArg Obj.data e))
        have mc23 := kp3 _ mc2 (fun es n e => nomatch dD.symm.trans (congrArg Obj.data e))
        clear N1 F1 mD mLk mLn mc1 mc2 hall
        repeat (first | (k_unfold; (try dsimp only)) | (k_end; wrow_close) | walk1 | (dsimp only; walk1))
        rename Fr _ _ _ _ => F1
        rename News _ _ _ _ => N1
        unfold Stop
        refine top_made (by k_asm) F1 (by k_asm) (by k_asm) rfl N1 nes3 hhi3 hlt3 h13 h23 okk3 okn3 hdj3 (by decide) (by ktr_room) (by ktr_units) fun t nw4 hT tkT etm FT NT bt kp4 adr4 => ?_
        subst etm
        have mD4 := kp4 _ mD3 (fun es n e => nomatch congrArg Obj.data e)
        have mLn4 := kp4 _ mLn3 (fun es n e => nomatch congrArg Obj.data e)
        have mc14 := (kp4 _ mc13 (fun es n e => nomatch e1.symm.trans (congrArg Obj.data e))).1
        have mc24 := (kp4 _ mc23 (fun es n e => nomatch dD.symm.trans (congrArg Obj.data e))).1
        have fn4 := news_fn NT
        obtain ⟨⟨mes5, mn5, pes5, pn5, nl5, nt5, m1, m2, m3, m4, m5, m6, m7, m8, m9, m10, m11, m12, m13, m14, m15, m16, m17⟩, hne5⟩ := id bt.mid
        have hcell : ∃ v, o1.data = .cell v := ⟨_, e1⟩
        obtain ⟨v0, hv0⟩ := hcell
        have G := bt.toG (c := s1.heap.objs.size + 1 + 1) fn4 mD4.1 mc14 hv0 hDlo3 mD4.2.1 mD4.2.2
        have ofc : ∀ a o, (a, o) ∈ nw4 → o.data ≠ (listOf vs.toArray n).data → (∀ v, o.data ≠ .cell v) → (a, o) ∈ Off [s1.heap.objs.size + 1 + 1] (Off [D] nw4) := fun a o h hd hc => offc (off_fn fn4) (offD fn4 mD4.1 mc14 (fun e => nomatch hv0.symm.trans e)) hv0 (offD fn4 mD4.1 h hd) hc
        have hc12 : s1.heap.objs.size + 1 ≠ s1.heap.objs.size + 1 + 1 := Nat.ne_of_lt (Nat.lt_succ_self (s1.heap.objs.size + 1))
        obtain ⟨nw5, NO, hpost, hne5, n1, n2, n3, nLn, nc2, G5⟩ : ∃ nw5, News _ _ hT ((D, listOf vs.toArray n) :: (s1.heap.objs.size + 1 + 1, o1) :: nw5) ∧ (∀ p ∈ (s1.heap.objs.size + 1 + 1, o1) :: nw5, p.1 ≠ D) ∧ (∀ p ∈ nw5, p.1 ≠ s1.heap.objs.size + 1 + 1) ∧ (t.am, instObj 247 t.dm) ∈ nw5 ∧ (t.dm, dictOf mes5 mn5) ∈ nw5 ∧ (t.lm, listOf ((ks.map Sm.x).map Value.ref).toArray nl5) ∈ nw5 ∧ (Ln, listOf ((ns.map Sm.x).map Value.ref).toArray (ns.map fun q : Sm => Value.ref q.x).length) ∈ nw5 ∧ (s1.heap.objs.size + 1, oD) ∈ nw5 ∧ BuiltG (s1.heap.objs.size + 1 + 1) (fun _ => none) (ks.map Sm.x) ns ks rst t nw5 :=
          ⟨Off [s1.heap.objs.size + 1 + 1] (Off [D] nw4), fun p hp => by
              rcases List.mem_cons.mp hp with rfl | hp
              · exact NT _ mD4.1
              rcases List.mem_cons.mp hp with rfl | hp
              · exact NT _ mc14
              · exact NT _ (mem_off.mp (mem_off.mp hp).1).1,
            fun p hp => by
              rcases List.mem_cons.mp hp with rfl | hp
              · exact hne.1
              · exact fun e => (mem_off.mp (mem_off.mp hp).1).2 (by rw [e]; exact .head _),
            fun p hp e => (mem_off.mp hp).2 (by rw [e]; exact .head _),
            ofc _ _ m1 (fun e => nomatch e) (fun _ e => nomatch e), ofc _ _ m2 (fun e => nomatch e) (fun _ e => nomatch e), (by
              refine offc (off_fn fn4) (offD fn4 mD4.1 mc14 (fun e => nomatch hv0.symm.trans e)) hv0 (offD2 m3 (Ne.symm mD4.2.1)) (fun _ e => nomatch e)), (by
              refine offc (off_fn fn4) (offD fn4 mD4.1 mc14 (fun e => nomatch hv0.symm.trans e)) hv0 (offD2 mLn4.1 (Ne.symm oLn.1)) (fun _ e => nomatch e)),
            offD2 (offD fn4 mD4.1 mc24 (fun e => nomatch dD.symm.trans e)) hc12, G⟩
        clear N1 F1 mD3 mLn3 mc13 mc23 kp3 kp4 adr4 okk3 okn3 hlt3 hhi3 nes3 h13 h23 NT fn4 m1 m2 m3 m4 m5 m6 mc14 mc24 bt G ofc
        repeat (first | (k_unfold; (try dsimp only)) | (k_end; wrow_close) | walk1 | (dsimp only; walk1))
        rename Fr _ _ _ _ => F1
        rename News _ _ _ _ => N1
        unfold Stop
        refine copy_refs F1 N1 (.tail _ (.tail _ n3)) (by rw [List.length_map]; omega) fun K2 c2 hK FK NK ltK => ?_
        clear F1 N1
        repeat (first | (k_unfold; (try dsimp only)) | (k_end; wrow_close) | walk1 | (dsimp only; walk1))
        unfold Stop
        rename Fr _ _ _ _ => F9
        rename News _ _ _ _ => N9
        have N10 : News _ _ _ ((D, listOf vs.toArray n) :: (s1.heap.objs.size + 1 + 1, o1) :: (K2, listOf ((ks.map Sm.x).map Value.ref).toArray c2) :: nw5) := fun p hp => N9 p (by
          rcases List.mem_cons.mp hp with rfl | hp
          · exact .tail _ (.head _)
          rcases List.mem_cons.mp hp with rfl | hp
          · exact .tail _ (.tail _ (.head _))
          rcases List.mem_cons.mp hp with rfl | hp
          · exact .head _
          · exact .tail _ (.tail _ (.tail _ hp)))
        have hpost3 : ∀ p ∈ (s1.heap.objs.size + 1 + 1, o1) :: (K2, listOf ((ks.map Sm.x).map Value.ref).toArray c2) :: nw5, p.1 ≠ D := fun p hp => by
          rcases List.mem_cons.mp hp with rfl | hp
          · exact hpost _ (.head _)
          rcases List.mem_cons.mp hp with rfl | hp
          · exact Nat.ne_of_gt (ltK _ (.head _))
          · exact hpost _ (.tail _ hp)
        have hne6 : ∀ p ∈ (K2, listOf ((ks.map Sm.x).map Value.ref).toArray c2) :: nw5, p.1 ≠ s1.heap.objs.size + 1 + 1 := fun p hp => by
          rcases List.mem_cons.mp hp with rfl | hp
          · exact Nat.ne_of_gt (ltK _ (.tail _ (.head _)))
          · exact hne5 p hp
        have G6 := G5.mono (news' := (K2, listOf ((ks.map Sm.x).map Value.ref).toArray c2) :: nw5) fun p hp => .tail _ hp
        have hK2 : K2 ≠ t.lm := Nat.ne_of_gt (ltK _ (.tail _ (.tail _ n3)))
        clear N9
        refine Box.go (end9 (w := ww) (t := t) (ns := ns) (ks := ks) (rst := rst) (b := (r2 == 1)) (r1 := r1) (t1 := t1) (by k_asm) F9 (by k_asm) (by k_asm) N10 hpost3 (.tail _ nc2) dD hv hv0 hne6 G6 htx (.tail _ nLn) (.head _) mLn4.2.1 hK2 hnl hkl r10 r11 ?_ ?_ ?_ ?_ ?_ ?_ ?_ ?_ ?_)
        · rfl
        · rfl
        · rfl
        · rfl
        · rfl
        · exact congrArg some (congrArg Value.ref G6.rx)
        · rfl
        · first | passes_own | (with_unfolding_all passes_own)
        · intro h' tk' m' FZ
          clear F9 N10
          show GoodW _ _ _ _ _ _ _
          exact goodW_bool (by assumption) (by assumption) (raisesW_false (by wrow_none_raised)) post_true
  )
end
end TX_LawK
end Mine
set_option maxRecDepth 100000 in
set_option maxHeartbeats 8000000 in
theorem PySem.Challenge.cw_bp5027_01_holds : PySem.Challenge.rw_bp5027_01.Holds := by
  exact Mine.law_all

import PyProof.Rows.All
import Wide.All
import OpenK.AllK
import Wide.FinOn
import Lean
import PySem.Challenge.RW_mq0163_01
open PySem PySem.W PyProof.Rows PySem.Calls PySem.Spec
set_option Elab.async false
set_option maxRecDepth 100000
set_option maxHeartbeats 8000000
namespace Mine
open_top hd for PySem.Challenge.rw_mq0163_01


section
example : PySem.Challenge.rw_mq0163_01 = PySem.Challenge.rw_mq0163_01 ∧ hd.heap_39 = hd.heap_39 := by k_fill; exact ⟨rfl, rfl⟩
local macro_rules | `(tactic| walk_at "binaryOp Mod float float") => `(tactic| (refine AutoFloatOps.mod_1 (by decide +kernel) ?_; dsimp only [Made.post]))
local macro_rules | `(tactic| walk_at "my bar") => `(tactic| (
  (fail_if_success (with_reducible show wpAny _ _ (pyIter _) _ _ _)); (fail_if_success (with_reducible show wpAny _ _ (exec (Stmt.For _ _ _ _ _) _) _ _ _)); (fail_if_success (with_reducible show wpAny _ _ (eval (Expr.ListComp _ _ _ _) _) _ _ _)); (fail_if_success (with_reducible show wpAny _ _ (exec (Stmt.Assign _ (Expr.ListComp _ _ _ _) _) _) _ _ _))))
local macro_rules | `(tactic| walk_at "my go") => `(tactic| repeat' (first | (k_unfold; (try dsimp only)) | (walk_at "my bar"; walk1) | (walk_at "my bar"; dsimp only; walk_at "my bar"; walk1)))
local macro_rules | `(tactic| walk_at "my for") => `(tactic| (refine' forV ?k1 ?k2 ?k3 ?k4 ?_; (case k1 => k_asm); (case k2 => rfl); (case k3 => rfl); (case k4 => (intro _; rfl)); (try k_fold)))
noncomputable abbrev Pr : Program := PySem.Challenge.rw_mq0163_01.row.prog
noncomputable abbrev Lv : List Str := looseW hd.view_39 [Str.ofString "ONE_THIRD", Str.ofString "ONE_SIXTH", Str.ofString "TWO_THIRD"]

theorem keeps_refl (s : Shared) : Keeps s s := ⟨s.heap, s.toks, rfl, fun _ _ e => e⟩
theorem keeps_trans {s s' s'' : Shared} (a : Keeps s s') (b : Keeps s' s'') : Keeps s s'' := by
  obtain ⟨h, t, rfl, k⟩ := a
  obtain ⟨h', t', rfl, k'⟩ := b
  exact ⟨h', t', rfl, fun x o e => k' x o (k x o e)⟩
theorem keeps_tok (s : Shared) (t : Nat) : Keeps s { s with toks := t } := ⟨s.heap, t, rfl, fun _ _ e => e⟩
theorem keeps_of {s : Shared} {h : Heap} {L : Addr} {m : Str → Option Value} {tk : Nat} (F : Fr s.heap L h m) : Keeps s { s with heap := h, toks := tk } := ⟨h, tk, rfl, F.keep⟩
theorem keeps_stays {s s' : Shared} (k : Keeps s s') : s.heap.StaysIn s'.heap := by
  obtain ⟨h, t, rfl, k⟩ := k
  exact k

section
variable {prog : Program} {w : World} {A : Around} {s : Shared} {K : Frag} {Q : Value → Shared → Prop} {name qual : Str} {params : Arguments} {body : List Stmt} {scope : Scope} {dV kV doc pm cdv ct oc : Value} {an od : Option Addr} {osl : Array (Option Value)} {f : Addr} {args : List Value} {binds : List (Str × Value)}
theorem enter {E : Value → Shared → Prop} {h₀ : Heap} (binds : List (Str × Value)) (X₀ : K.In h₀) (st : h₀.StaysIn s.heap) (hlim : h₀.NoLimit)
    (ho : K.lookup f = some ⟨oc, od, .func (fnOf name qual params body scope dV kV doc pm an cdv ct), osl⟩) (hcd : codeIn K cdv qual = true) (hroom : A.depth < recursionLimit)
    (hbind : BindsTo s (fnOf name qual params body scope dV kV doc pm an cdv ct) ⟨args, []⟩ binds) (hloc : ∀ y ∈ binds, scope.names.lookup y.1 = some .local)
    (h : ∀ h₁, Fr s.heap s.heap.objs.size h₁ (fun y => binds.reverse.lookup y) → News s.heap s.heap.objs.size h₁ [] →
      wpAny (model prog w) (A.deeper (envOf qual scope s.heap.objs.size f cdv)) (execs body (envOf qual scope s.heap.objs.size f cdv))
        (fun fl s' => Q (match fl with | .ret v => v | _ => .none) s') (fun _ _ => False)
        { s with heap := h₁, toks := s.toks + binds.length })
    (hcell : ∀ x ∈ scope.names, x.2 ≠ .cell) (hco : scope.isCoroutine = false) (hgen : scope.isGenerator = false) (hk : scope.kind = .function) :
    wpAny (model prog w) A (call (.ref f) args) Q E s := by
  have X : K.In s.heap := X₀.keeps st
  refine wpAny_call (codeAny_call_def (fd := fnX name qual params body scope [] dV kV doc pm an cdv ct) (body := body) (binds := binds) hroom (X _ _ ho) rfl (hlim.keeps st) (codeRec_of X hcd) rfl hbind hcell hloc (fun h₁ hns hk₁ => ?_) hco hgen hk)
  exact wpAny_mono (h h₁ ⟨hns, hk₁, Nat.le_refl _⟩ News.nil) (fun fl s' q => q) fun _ _ q => q.elim
theorem enterC {E : Value → Shared → Prop} {h₀ : Heap} (binds : List (Str × Value)) (X₀ : K.In h₀) (st : h₀.StaysIn s.heap) (hlim : h₀.NoLimit)
    (ho : K.lookup f = some ⟨oc, od, .func (fnOf name qual params body scope dV kV doc pm an cdv ct), osl⟩) (hcd : codeIn K cdv qual = true) (hroom : A.depth < recursionLimit)
    (hbind : BindsTo s (fnOf name qual params body scope dV kV doc pm an cdv ct) ⟨args, []⟩ binds) (hkind : (binds.all fun y => scope.names.lookup y.1 == some .local || scope.names.lookup y.1 == some .cell) = true)
    (hnd : ((cellsFrom 0 scope.names []).map (·.1)).Nodup)
    (h : ∀ h₁ tk cells, Fr s.heap s.heap.objs.size h₁ (bindL (envOfC qual scope s.heap.objs.size f cdv).kindOf binds fun _ => none) → News s.heap s.heap.objs.size h₁ cells →
      CellsAre (bindC (envOfC qual scope s.heap.objs.size f cdv).kindOf binds fun _ => none) (cellsFrom (s.heap.objs.size + 1) scope.names []) cells →
      wpAny (model prog w) (A.deeper (envOfC qual scope s.heap.objs.size f cdv)) (execs body (envOfC qual scope s.heap.objs.size f cdv))
        (fun fl s' => Q (match fl with | .ret v => v | _ => .none) s') (fun _ _ => False)
        { s with heap := h₁, toks := tk })
    (hco : scope.isCoroutine = false) (hgen : scope.isGenerator = false) (hk : scope.kind = .function) :
    wpAny (model prog w) A (call (.ref f) args) Q E s := by
  have X : K.In s.heap := X₀.keeps st
  refine wpAny_call (codeAny_call_function (o := ⟨oc, od, .func (fnX name qual params body scope [] dV kV doc pm an cdv ct), osl⟩) hroom (X _ _ ho) rfl hco hgen rfl (codeRec_of X hcd) (hbind _ _ _ _ ?_))
  refine wpAny_newFunctionEnv_cells hk (kindsX hkind _) fun env' he s' x => ?_
  subst he
  refine ⟨(hlim.keeps st).keeps x.toInCall.keep, codeAny_func ?_⟩
  obtain ⟨h₁, tk, rfl, _⟩ := x.done
  have hk₁ := x.toInCall.keep
  obtain ⟨cells, NC, Y⟩ := Cl.news (h₀ := s.heap) (Nat.le_refl _) fun n c hm => ⟨x.cell n c (lookup_of_mem_nodup (cellsFrom_names scope.names 0 (s.heap.objs.size + 1) [] [] rfl ▸ hnd) hm), x.above n c hm⟩
  exact wpAny_mono (h h₁ tk cells ⟨x.toInCall.ns, hk₁, Nat.le_refl _⟩ NC Y) (fun fl s' q => q) fun _ _ q => q.elim
end

/-- what a name gives in a heap, and goes on giving while the heap only grows -/
inductive Sees (env : Env) (h : Heap) (x : Str) (v : Value) : Prop
  | loc (m : Str → Option Value) : env.scope.kind = .function → env.kindOf x = some .local → h.Ns env.locals m → m x = some v → Sees env h x v
  | cell (c : Addr) : env.scope.kind = .function → env.kindOf x = some .cell → env.cells.lookup x = some c → h.IsCell c (some v) → Sees env h x v
  | glob (mg : Str → Option Value) : env.scope.kind = .function → env.kindOf x = some .globalImplicit → h.Ns env.globals mg → mg x = some v → Sees env h x v
  | blt (mg mb : Str → Option Value) : env.scope.kind = .function → env.kindOf x = some .globalImplicit → h.Ns env.globals mg → mg x = none → h.Ns env.builtins mb → mb x = some v → Sees env h x v
theorem Sees.keeps {env : Env} {h h' : Heap} {x : Str} {v : Value} (a : Sees env h x v) (k : h.StaysIn h') : Sees env h' x v := by
  cases a with
  | loc m a b c d => exact .loc m a b (c.keeps k) d
  | cell c a b d e => exact .cell c a b d (e.keeps k)
  | glob mg a b c d => exact .glob mg a b (c.keeps k) d
  | blt mg mb a b c d e f => exact .blt mg mb a b (c.keeps k) d (e.keeps k) f
theorem Sees.ev {M : Model} {A : Around} {E : Value → Shared → Prop} {s : Shared} {env : Env} {x : Str} {v : Value} {pos : Pos} {Q : Value → Shared → Prop} (a : Sees env s.heap x v) (h : Q v s) (hd : (x == ("__debug__" : Str)) = false) :
    wpAny M A (eval (.Name x pos) env) Q E s := by
  cases a with
  | loc m a b c d => exact wpAny_Name (wpAny_loadName_local a b c d h) hd
  | cell c a b d e => exact wpAny_Name (wpAny_loadName_cell a b d e h) hd
  | glob mg a b c d => exact Name_function_global a b (loadGlobal_global c d h) hd
  | blt mg mb a b c d e f => exact Name_function_global a b (loadGlobal_builtin c d e f h) hd

abbrev Ar (dp un : Nat) (fr : Option (List Env)) (gd : Option (List Code)) : Around := { handled := none, depth := dp, frames := fr, guards := gd, units := un }
/-- the end of a contract: the heap only grew, and P is told of the value in the new heap -/
def Post (s : Shared) (P : Value → Heap → Prop) (v : Value) (s' : Shared) : Prop := Keeps s s' ∧ P v s'.heap
theorem Post.intro {s : Shared} {P : Value → Heap → Prop} {v : Value} {h : Heap} {L : Addr} {m : Str → Option Value} {tk : Nat} (F : Fr s.heap L h m) (p : P v h) : Post s P v { s with heap := h, toks := tk } := ⟨keeps_of F, p⟩
theorem use {M : Model} {A : Around} {s : Shared} {t : Sem Value} {P : Value → Heap → Prop} {Q E : Value → Shared → Prop} (c : wpAny M A t (Post s P) (fun _ _ => False) s)
    (h : ∀ v h' tk, s.heap.StaysIn h' → P v h' → Q v { s with heap := h', toks := tk }) : wpAny M A t Q E s :=
  wpAny_mono c (fun v s' p => by obtain ⟨⟨h', tk, rfl, k⟩, q⟩ := p; exact h v h' tk k q) fun _ _ q => q.elim
theorem useK {M : Model} {A : Around} {s : Shared} {t : Sem Value} {P : Value → Heap → Prop} {Q E : Value → Shared → Prop} {h₀ : Heap} {L : Addr} {m : Str → Option Value} {news : List (Addr × Obj)}
    (F : Fr h₀ L s.heap m) (N : News h₀ L s.heap news) (c : wpAny M A t (Post s P) (fun _ _ => False) s)
    (h : ∀ v h' tk, s.heap.StaysIn h' → Fr h₀ L h' m → News h₀ L h' news → P v h' → Q v { s with heap := h', toks := tk }) : wpAny M A t Q E s :=
  wpAny_mono c (fun v s' p => by obtain ⟨⟨h', tk, rfl, k⟩, q⟩ := p; exact h v h' tk k (F.keeps k) (N.grown k) q) fun _ _ q => q.elim

end
section
local macro_rules | `(tactic| walk_at "binaryOp Mod float float") => `(tactic| (refine AutoFloatOps.mod_1 (by decide +kernel) ?_; dsimp only [Made.post]))
local macro_rules | `(tactic| walk_at "my bar") => `(tactic| (
  (fail_if_success (with_reducible show wpAny _ _ (pyIter _) _ _ _)); (fail_if_success (with_reducible show wpAny _ _ (exec (Stmt.For _ _ _ _ _) _) _ _ _)); (fail_if_success (with_reducible show wpAny _ _ (eval (Expr.ListComp _ _ _ _) _) _ _ _)); (fail_if_success (with_reducible show wpAny _ _ (exec (Stmt.Assign _ (Expr.ListComp _ _ _ _) _) _) _ _ _))))
local macro_rules | `(tactic| walk_at "my go") => `(tactic| repeat' (first | (k_unfold; (try dsimp only)) | (walk_at "my bar"; walk1) | (walk_at "my bar"; dsimp only; walk_at "my bar"; walk1)))
local macro_rules | `(tactic| walk_at "my for") => `(tactic| (refine' forV ?k1 ?k2 ?k3 ?k4 ?_; (case k1 => k_asm); (case k2 => rfl); (case k3 => rfl); (case k4 => (intro _; rfl)); (try k_fold)))
section
variable {prog : Program} {w : World} {A : Around} {E : Value → Shared → Prop} {s s₂ : Shared} {env : Env} {h₀ : Heap} {x : Str} {body : List Stmt} {Q : Flow → Shared → Prop}
def TEnd (h₀ : Heap) (L : Addr) (J : (Str → Option Value) → List (Addr × Obj) → Prop) (own : List (Addr × Obj)) (adr : List Addr) (s₁ s₂ : Shared) : Prop :=
  ∃ h' tk m' news', s₂ = { s₁ with heap := h', toks := tk } ∧ Fr h₀ L h' m' ∧ News h₀ L h' (news' ++ own) ∧ news'.map (·.1) = adr ∧ J m' news'
def TPost (h₀ : Heap) (L : Addr) (J : (Str → Option Value) → List (Addr × Obj) → Prop) (own : List (Addr × Obj)) (adr : List Addr) (s₁ : Shared) (Q : Flow → Shared → Prop) (f : Flow) (s₂ : Shared) : Prop :=
  match f with
  | .ret v => Q (.ret v) s₂
  | .brk => Q .next s₂
  | _ => TEnd h₀ L J own adr s₁ s₂
theorem TPost.ret {L : Addr} {J : (Str → Option Value) → List (Addr × Obj) → Prop} {own : List (Addr × Obj)} {adr : List Addr} {s₁ : Shared} {v : Value} {s₂ : Shared} (h : Q (.ret v) s₂) : TPost h₀ L J own adr s₁ Q (.ret v) s₂ := h
theorem TPost.next {L : Addr} {J : (Str → Option Value) → List (Addr × Obj) → Prop} {own : List (Addr × Obj)} {adr : List Addr} {s₁ : Shared} {h' : Heap} {tk : Nat} {m' : Str → Option Value} (news' : List (Addr × Obj)) (F : Fr h₀ L h' m') (N : News h₀ L h' (news' ++ own)) (ha : news'.map (·.1) = adr) (j : J m' news') :
    TPost h₀ L J own adr s₁ Q .next { s₁ with heap := h', toks := tk } := ⟨h', tk, m', news', rfl, F, N, ha, j⟩

theorem loopV {I : Addr} {fp : List Addr} {n : Nat} {P : Nat → Value → Prop} {St : Nat → Heap → Prop} {m₀ : Str → Option Value} {news : List (Addr × Obj)} (W : Walks prog w A I fp [I] n P St)
    (hI : h₀.get? I = none) (hL : env.locals ∉ fp) (hst : St 0 s₂.heap) (F : Fr h₀ env.locals s₂.heap m₀) (N : News h₀ env.locals s₂.heap news) (hoff : ∀ p ∈ news, p.1 ∉ fp)
    (J : Nat → (Str → Option Value) → List (Addr × Obj) → Prop) (hj : J 0 m₀ news)
    (turn : ∀ i v m₁ news₁ h tk own, i < n → P i v → news₁.map (·.1) = news.map (·.1) → OwnOff own (news.map (·.1)) → J i m₁ news₁ → Fr h₀ env.locals h (fun y => if y = x then some v else m₁ y) → News h₀ env.locals h (news₁ ++ own) →
      wpAny (model prog w) A (execs body env) (TPost h₀ env.locals (J (i + 1)) own (news.map (·.1)) { s₂ with heap := h, toks := tk } Q) E { s₂ with heap := h, toks := tk })
    (done : ∀ m₁ news₁ h tk, J n m₁ news₁ → news₁.map (·.1) = news.map (·.1) → Fr h₀ env.locals h m₁ → News h₀ env.locals h news₁ → Q .next { s₂ with heap := h, toks := tk }) :
    LoopAtV prog w A h₀ env x body Q E (.ref I) s₂ := by
  let J' : Nat → (Str → Option Value) → List (Addr × Obj) → Prop := fun i m₁ news₁ => news₁.map (·.1) = news.map (·.1) ∧ J i m₁ news₁
  have hIn : ∀ (l : List (Addr × Obj)), l.map (·.1) = news.map (·.1) → ∀ p ∈ l, p.1 ∉ fp := fun l e p hp hq => by
    have h1 : p.1 ∈ l.map (·.1) := List.mem_map.mpr ⟨p, hp, rfl⟩
    rw [e] at h1
    obtain ⟨q, hq1, hq2⟩ := List.mem_map.mp h1
    exact hoff q hq1 (by rw [hq2]; exact hq)
  refine ⟨I, fp, [I], n, P, St, m₀, news, J', rfl, W, hL, ?_, ?_, hst, F, N, ⟨rfl, hj⟩, ?_, ?_⟩
  · intro b hb; rw [List.mem_singleton.mp hb]; exact hI
  · intro p hp hq; exact hoff p hp (W.sub _ hq)
  · rintro i v m₁ news₁ s₁ own ⟨h, tk, rfl⟩ hin hP ⟨hadr, hJ⟩ hno hown _ _ _ F₁ N₁
    have hsep : OwnOff own (news.map (·.1)) := by
      intro p hp b hb e
      obtain ⟨q, hq, rfl⟩ := List.mem_map.mp hb
      exact hoff q hq (e ▸ hown p hp)
    have N₂ : News h₀ env.locals h (news₁ ++ own) := fun p hp => N₁ p ((List.mem_append.mp hp).elim (fun h => List.mem_append.mpr (.inr h)) fun h => List.mem_append.mpr (.inl h))
    refine wpAny_mono (turn i v m₁ news₁ h tk own hin hP hadr hsep hJ F₁ N₂) (fun f s₃ p => ?_) fun _ _ e => e
    have fin : TEnd h₀ env.locals (J (i + 1)) own (news.map (·.1)) { s₂ with heap := h, toks := tk } s₃ → LoopStepU h₀ env.locals [I] own (J' (i + 1)) { s₂ with heap := h, toks := tk } .next s₃ := by
      rintro ⟨h', tk, m', nx, e, F', N', ha, hm⟩
      refine ⟨rfl, h', tk, m', nx, e, F', fun p hp => N' p ((List.mem_append.mp hp).elim (fun h => List.mem_append.mpr (.inr h)) fun h => List.mem_append.mpr (.inl h)), fun p hp hq => ?_, ha, hm⟩
      exact hIn nx ha p hp (W.sub _ hq)
    cases f with
    | ret v => exact .ret p
    | brk => exact .brk p
    | next => exact .next (fin p)
    | cont => exact .cont (fin p)
  · rintro h' tk m' news' F' N' _ ⟨ha, hJ⟩
    exact done m' news' h' tk hJ ha F' N'

theorem iter_tup {ax : Addr} {items : Array Value} {m₀ : Str → Option Value} {news : List (Addr × Obj)} (J : Nat → (Str → Option Value) → List (Addr × Obj) → Prop) (hh : A.handled = none) (hl : IsTup s.heap ax items)
    (F : Fr h₀ env.locals s.heap m₀) (N : News h₀ env.locals s.heap news) (hax : ax ≠ env.locals) (hoff : ∀ p ∈ news, p.1 ≠ ax) (hj : J 0 m₀ news)
    (turn : ∀ i v m₁ news₁ h tk own, i < items.size → items[i]? = some v → news₁.map (·.1) = news.map (·.1) → OwnOff own (news.map (·.1)) → J i m₁ news₁ → Fr h₀ env.locals h (fun y => if y = x then some v else m₁ y) → News h₀ env.locals h (news₁ ++ own) →
      wpAny (model prog w) A (execs body env) (TPost h₀ env.locals (J (i + 1)) own (news.map (·.1)) { s with heap := h, toks := tk } Q) E { s with heap := h, toks := tk })
    (done : ∀ m₁ news₁ h tk, J items.size m₁ news₁ → news₁.map (·.1) = news.map (·.1) → Fr h₀ env.locals h m₁ → News h₀ env.locals h news₁ → Q .next { s with heap := h, toks := tk }) :
    wpAny (model prog w) A (pyIter (.ref ax)) (fun it s₂ => LoopAtV prog w A h₀ env x body Q E it s₂) E s := by
  have hlt : ax < s.heap.objs.size := hl.lt
  refine wpAny_pyIter_tuple hl ?_
  refine loopV (s₂ := { s with heap := _ }) (Walks.tuple hh s.heap.objs.size ax (Nat.ne_of_lt hlt) items) (next_is_new F) ?_ ⟨⟨_, Heap.get?_push_size _ rfl, rfl, rfl⟩, hl.push _⟩ (F.push _) (fun p hp => ⟨Heap.get?_push_of_some _ (N p hp).1, (N p hp).2⟩) ?_ J hj ?_ ?_
  · intro hm
    rcases List.mem_cons.mp hm with e | hm
    · exact absurd F.ns.lt (e ▸ Nat.lt_irrefl _)
    · exact hax (List.mem_singleton.mp hm).symm
  · intro p hp hm
    rcases List.mem_cons.mp hm with e | hm
    · exact absurd (Heap.lt_size (N p hp).1) (e ▸ Nat.lt_irrefl _)
    · exact hoff p hp (List.mem_singleton.mp hm)
  · exact turn
  · exact done

theorem iter_lst {ax : Addr} {items : Array Value} {m₀ : Str → Option Value} {news : List (Addr × Obj)} (J : Nat → (Str → Option Value) → List (Addr × Obj) → Prop) (hh : A.handled = none) (hl : s.heap.IsList ax items)
    (F : Fr h₀ env.locals s.heap m₀) (N : News h₀ env.locals s.heap news) (hax : ax ≠ env.locals) (hoff : ∀ p ∈ news, p.1 ≠ ax) (hj : J 0 m₀ news)
    (turn : ∀ i v m₁ news₁ h tk own, i < items.size → items[i]? = some v → news₁.map (·.1) = news.map (·.1) → OwnOff own (news.map (·.1)) → J i m₁ news₁ → Fr h₀ env.locals h (fun y => if y = x then some v else m₁ y) → News h₀ env.locals h (news₁ ++ own) →
      wpAny (model prog w) A (execs body env) (TPost h₀ env.locals (J (i + 1)) own (news.map (·.1)) { s with heap := h, toks := tk } Q) E { s with heap := h, toks := tk })
    (done : ∀ m₁ news₁ h tk, J items.size m₁ news₁ → news₁.map (·.1) = news.map (·.1) → Fr h₀ env.locals h m₁ → News h₀ env.locals h news₁ → Q .next { s with heap := h, toks := tk }) :
    wpAny (model prog w) A (pyIter (.ref ax)) (fun it s₂ => LoopAtV prog w A h₀ env x body Q E it s₂) E s := by
  have hlt : ax < s.heap.objs.size := by obtain ⟨_, e, _⟩ := hl; exact Heap.lt_size e
  refine wpAny_pyIter_list hl ?_
  refine loopV (s₂ := { s with heap := _ }) (Walks.list hh s.heap.objs.size ax (Nat.ne_of_lt hlt) items) (next_is_new F) ?_ ⟨⟨_, Heap.get?_push_size _ rfl, rfl, rfl⟩, hl.at fun o e => Heap.get?_push_of_some _ e⟩ (F.push _) (fun p hp => ⟨Heap.get?_push_of_some _ (N p hp).1, (N p hp).2⟩) ?_ J hj ?_ ?_
  · intro hm
    rcases List.mem_cons.mp hm with e | hm
    · exact absurd F.ns.lt (e ▸ Nat.lt_irrefl _)
    · exact hax (List.mem_singleton.mp hm).symm
  · intro p hp hm
    rcases List.mem_cons.mp hm with e | hm
    · exact absurd (Heap.lt_size (N p hp).1) (e ▸ Nat.lt_irrefl _)
    · exact hoff p hp (List.mem_singleton.mp hm)
  · exact turn
  · exact done

theorem iter_rng {r : Addr} {a b c : Int} {t u v : Tok} {n : Nat} {m₀ : Str → Option Value} {news : List (Addr × Obj)} (J : Nat → (Str → Option Value) → List (Addr × Obj) → Prop) (hh : A.handled = none) (hr : IsRange s.heap r a b c t u v) (hsmall : Builtin.Range.small a b c = true)
    (hn : Builtin.Range.rangeSize a b c = (n : Int)) (F : Fr h₀ env.locals s.heap m₀) (N : News h₀ env.locals s.heap news) (hj : J 0 m₀ news)
    (turn : ∀ i v m₁ news₁ h tk own, i < n → (∃ t, v = .int (a + i * c) t) → news₁.map (·.1) = news.map (·.1) → OwnOff own (news.map (·.1)) → J i m₁ news₁ → Fr h₀ env.locals h (fun y => if y = x then some v else m₁ y) → News h₀ env.locals h (news₁ ++ own) →
      wpAny (model prog w) A (execs body env) (TPost h₀ env.locals (J (i + 1)) own (news.map (·.1)) { s with heap := h, toks := tk } Q) E { s with heap := h, toks := tk })
    (done : ∀ m₁ news₁ h tk, J n m₁ news₁ → news₁.map (·.1) = news.map (·.1) → Fr h₀ env.locals h m₁ → News h₀ env.locals h news₁ → Q .next { s with heap := h, toks := tk }) :
    wpAny (model prog w) A (pyIter (.ref r)) (fun it s₂ => LoopAtV prog w A h₀ env x body Q E it s₂) E s := by
  refine wpAny_pyIter_range hr hsmall ?_
  refine loopV (s₂ := { s with heap := _ }) (Walks.range hh s.heap.objs.size a c n) (next_is_new F) ?_ ?_ (F.push _) (fun p hp => ⟨Heap.get?_push_of_some _ (N p hp).1, (N p hp).2⟩) ?_ J hj ?_ ?_
  · intro hm
    exact absurd F.ns.lt ((List.mem_singleton.mp hm) ▸ Nat.lt_irrefl _)
  · show IsRangeIter _ _ _ _ _
    rw [hn]
    simpa using Heap.get?_push_size _ rfl
  · intro p hp hm
    exact absurd (Heap.lt_size (N p hp).1) ((List.mem_singleton.mp hm) ▸ Nat.lt_irrefl _)
  · exact turn
  · exact done
end
theorem forV {prog : Program} {w : World} {A : Around} {s : Shared} {env : Env} {h₀ : Heap} {x : Str} {body : List Stmt} {Q : Flow → Shared → Prop} {iter : Expr} {px pos : Pos} {m : Str → Option Value} (F : Fr h₀ env.locals s.heap m) (hx : env.kindOf x = some .local)
    (hp : (env.scope.kind == .class || (env.scope.kind == .module && env.locals != env.globals)) = false)
    (hs : ∀ x, foldedSetIterable iter env x = pure x)
    (h : wpAny (model prog w) A (eval iter env) (fun xv s₁ => wpAny (model prog w) A (pyIter xv) (fun it s₂ => LoopAtV prog w A h₀ env x body Q (fun _ _ => False) it s₂) (fun _ _ => False) s₁) (fun _ _ => False) s) :
    wpAny (model prog w) A (exec (.For (.Name x px) iter body [] pos) env) Q (fun _ _ => False) s := For_invV h₀ hx hp h hs PassesOwn.never
theorem frAs {h₀ h : Heap} {L : Addr} {m : Str → Option Value} (F : Fr h₀ L h m) (x : Str) {v : Value} (e : m x = some v) : Fr h₀ L h (fun y => if y = x then some v else m y) := by
  have q : (fun y => if y = x then some v else m y) = m := by
    funext y
    by_cases c : y = x
    · rw [if_pos c, c, e]
    · rw [if_neg c]
  rw [q]; exact F
theorem news_nil {h₀ h : Heap} {L : Addr} {own : List (Addr × Obj)} (N : News h₀ L h ([] ++ own)) : News h₀ L h own := N

end
section
local macro_rules | `(tactic| walk_at "binaryOp Mod float float") => `(tactic| (refine AutoFloatOps.mod_1 (by decide +kernel) ?_; dsimp only [Made.post]))
local macro_rules | `(tactic| walk_at "my bar") => `(tactic| (
  (fail_if_success (with_reducible show wpAny _ _ (pyIter _) _ _ _)); (fail_if_success (with_reducible show wpAny _ _ (exec (Stmt.For _ _ _ _ _) _) _ _ _)); (fail_if_success (with_reducible show wpAny _ _ (eval (Expr.ListComp _ _ _ _) _) _ _ _)); (fail_if_success (with_reducible show wpAny _ _ (exec (Stmt.Assign _ (Expr.ListComp _ _ _ _) _) _) _ _ _))))
local macro_rules | `(tactic| walk_at "my go") => `(tactic| repeat' (first | (k_unfold; (try dsimp only)) | (walk_at "my bar"; walk1) | (walk_at "my bar"; dsimp only; walk_at "my bar"; walk1)))
local macro_rules | `(tactic| walk_at "my for") => `(tactic| (refine' forV ?k1 ?k2 ?k3 ?k4 ?_; (case k1 => k_asm); (case k2 => rfl); (case k3 => rfl); (case k4 => (intro _; rfl)); (try k_fold)))
theorem useS {M : Model} {A : Around} {s : Shared} {b : Heap} {t : Sem Value} {P : Value → Heap → Prop} {Q E : Value → Shared → Prop} (st : b.StaysIn s.heap) (c : wpAny M A t (Post s P) (fun _ _ => False) s)
    (h : ∀ v h' tk, b.StaysIn h' → P v h' → Q v { s with heap := h', toks := tk }) : wpAny M A t Q E s :=
  wpAny_mono c (fun v s' p => by obtain ⟨⟨h', tk, rfl, k⟩, q⟩ := p; exact h v h' tk (fun x o e => k x o (st x o e)) q) fun _ _ q => q.elim
theorem Sees.at {M : Model} {A : Around} {E : Value → Shared → Prop} {s : Shared} {b : Heap} {env : Env} {x : Str} {v : Value} {pos : Pos} {Q : Value → Shared → Prop} (a : Sees env b x v) (st : b.StaysIn s.heap) (h : Q v s) (hd : (x == ("__debug__" : Str)) = false) :
    wpAny M A (eval (.Name x pos) env) Q E s := (a.keeps st).ev h hd
theorem paired_range {G : Nat → Value → Prop} {pz : Nat → Bool} : ∀ (vs : List Value) (k : Nat) (ys : List Value), (∀ (j : Nat) v, vs[j]? = some v → ∃ t, v = Value.int ((k + j : Nat) : Int) t) →
    Paired (fun v y => ∃ (a : Nat) (t : Tok), v = Value.int (a : Int) t ∧ G a y) (vs.filter fun v => match v with | .int a _ => pz a.toNat | _ => false) ys → Paired G ((List.range' k vs.length).filter pz) ys
  | [], k, ys, _, h => by
    cases h
    exact .nil
  | v :: vs, k, ys, hv, h => by
    obtain ⟨t, rfl⟩ := hv 0 v rfl
    have ih := paired_range (G := G) (pz := pz) vs (k + 1) 
    have hv' : ∀ (j : Nat) u, vs[j]? = some u → ∃ t, u = Value.int ((k + 1 + j : Nat) : Int) t := fun j u e => by
      obtain ⟨t', e'⟩ := hv (j + 1) u (by simpa using e)
      exact ⟨t', by rw [e']; congr 1; omega⟩
    rw [List.length_cons, List.range'_succ]
    have e0 : ((k + 0 : Nat) : Int).toNat = k := by omega
    by_cases q : pz k = true
    · rw [List.filter_cons_of_pos (by simpa using q)] at h
      rw [List.filter_cons_of_pos (by exact q)]
      cases h with
      | cons a b =>
        obtain ⟨n, t', e, g⟩ := a
        injection e with e1 e2
        have : n = k := by omega
        subst this
        exact .cons g (ih _ hv' b)
    · rw [List.filter_cons_of_neg (by simpa using q)] at h
      rw [List.filter_cons_of_neg (by exact q)]
      exact ih _ hv' h

theorem paired_all {G : Nat → Value → Prop} {n : Nat} {ys : Array Value} (h : Paired G ((List.range n).filter fun _ => true) ys.toList) : ys.size = n ∧ ∀ i, i < n → ∃ y, ys[i]? = some y ∧ G i y := by
  rw [List.filter_eq_self.mpr (fun _ _ => rfl)] at h
  have key : ∀ (l : List Nat) (zs : List Value), Paired G l zs → zs.length = l.length ∧ ∀ (i a : Nat), l[i]? = some a → ∃ y, zs[i]? = some y ∧ G a y := by
    intro l zs h
    induction h with
    | nil => exact ⟨rfl, fun i a e => by simp at e⟩
    | cons h t ih =>
      refine ⟨by simp [ih.1], fun i a e => ?_⟩
      cases i with
      | zero => simp at e; subst e; exact ⟨_, rfl, h⟩
      | succ i => simp at e; obtain ⟨y, hy, g⟩ := ih.2 i a e; exact ⟨y, by simpa using hy, g⟩
  obtain ⟨a, b⟩ := key _ _ h
  refine ⟨by simpa using a, fun i hi => ?_⟩
  obtain ⟨y, hy, g⟩ := b i i (by simp [hi])
  exact ⟨y, by simpa using hy, g⟩
def CR (prog : Program) (w : World) (A : Around) (env : Env) (elt : Expr) (x : Str) (ifs : List Expr) (scope : Scope) (cl : List (Str × Addr)) (pz : Nat → Bool) (G : Nat → Value → Prop) (Q : Value → Shared → Prop) (xv : Value) (s₁ : Shared) : Prop :=
  ∃ r b t u v, ∃ n : Nat, xv = .ref r ∧ IsRange s₁.heap r 0 b 1 t u v ∧ Builtin.Range.small 0 b 1 = true ∧ Builtin.Range.rangeSize 0 b 1 = (n : Int) ∧ n ≤ sizeLine ∧
      (∀ C i tv s₃ m₃ E', i < n → s₃.heap.Ns C m₃ → m₃ x = some (.int (i : Int) tv) → s₁.heap.StaysIn s₃.heap →
        wpAny (model prog w) A (forIn ifs true fun c r => if r = true then do let ok ← isTrue c (compEnvC scope cl C env) (eval c (compEnvC scope cl C env)); pure (ForInStep.yield ok) else pure (ForInStep.yield r))
          (fun ok s₄ => ok = pz i ∧ Keeps s₃ s₄) E' s₃) ∧
      (∀ C i tv s₃ m₃ E', i < n → pz i = true → s₃.heap.Ns C m₃ → m₃ x = some (.int (i : Int) tv) → s₁.heap.StaysIn s₃.heap →
        wpAny (model prog w) A (eval elt (compEnvC scope cl C env)) (fun y s₄ => G i y ∧ Keeps s₃ s₄) E' s₃) ∧
      (∀ D h' tk ys, s₁.heap.get? D = none → h'.PlainList D ys → Paired G ((List.range n).filter pz) ys.toList → s₁.heap.StaysIn h' → Q (.ref D) { s₁ with heap := h', toks := tk })
theorem CR.all {prog : Program} {w : World} {A : Around} {env : Env} {elt : Expr} {x : Str} {scope : Scope} {cl : List (Str × Addr)} {G : Nat → Value → Prop} {Q : Value → Shared → Prop} {s₁ : Shared} {r : Addr} {b : Int} {t u v : Tok} (n : Nat)
    (hr : IsRange s₁.heap r 0 b 1 t u v) (hsm : Builtin.Range.small 0 b 1 = true) (hn : Builtin.Range.rangeSize 0 b 1 = (n : Int)) (hsz : n ≤ sizeLine)
    (helt : ∀ C i tv s₃ m₃ cenv, cenv = compEnvC scope cl C env → i < n → s₃.heap.Ns C m₃ → m₃ x = some (.int (i : Int) tv) → s₁.heap.StaysIn s₃.heap →
        wpAny (model prog w) A (eval elt cenv) (Post s₃ fun y _ => G i y) (fun _ _ => False) s₃)
    (hQ : ∀ D h' tk (ys : Array Value), s₁.heap.get? D = none → h'.PlainList D ys → ys.size = n → (∀ i, i < n → ∃ y, ys[i]? = some y ∧ G i y) → s₁.heap.StaysIn h' → Q (.ref D) { s₁ with heap := h', toks := tk }) :
    CR prog w A env elt x [] scope cl (fun _ => true) G Q (.ref r) s₁ :=
  ⟨r, b, t, u, v, n, rfl, hr, hsm, hn, hsz, fun _ _ _ s₃ _ _ _ _ _ _ => wpAny_pure ⟨rfl, keeps_refl _⟩, fun C i tv s₃ m₃ E' hi _ hm hx k => wpAny_mono (helt C i tv s₃ m₃ _ rfl hi hm hx k) (fun y s₄ p => ⟨p.2, p.1⟩) fun _ _ q => q.elim,
    fun D h' tk ys hD hp hq hk => by obtain ⟨a, b⟩ := paired_all hq; exact hQ D h' tk ys hD hp a b hk⟩
section
variable {prog : Program} {w : World} {A : Around} {E : Value → Shared → Prop} {s : Shared} {env : Env}
theorem comp_range {elt iter : Expr} {x : Str} {px : Pos} {ifs : List Expr} {scope : Scope} {cl : List (Str × Addr)} {pos : Pos} {Q : Value → Shared → Prop} (pz : Nat → Bool) (G : Nat → Value → Prop) (hh : A.handled = none)
    (hclos : closureFor scope env = pure cl) (hcell : ∀ y ∈ scope.names, y.2 ≠ .cell) (hkind : scope.kind = .function)
    (hnames : ∀ y ∈ scope.names, y.2 = .local → scope.names.lookup y.1 = some .local) (hx : scope.names.lookup x = some .local)
    (hs : ∀ x, foldedSetIterable iter env x = pure x)
    (h : wpAny (model prog w) A (eval iter env) (CR prog w A env elt x ifs scope cl pz G Q) E s) :
    wpAny (model prog w) A (eval (.ListComp elt [⟨.Name x px, iter, ifs, 0⟩] scope pos) env) Q E s := by
  refine wpAny_ListComp_free (fun v => match v with | .int a _ => pz a.toNat | _ => false) (fun v y => ∃ (a : Nat) (t : Tok), v = Value.int (a : Int) t ∧ G a y) hclos hcell hkind hnames hx (wpAny_mono h (fun xv s₁ h₁ => ?_) fun _ _ e => e) hs
  obtain ⟨r, b, t, u, v, n, rfl, hr, hsm, hn, hsz, htests, helt, hQ⟩ := h₁
  refine wpAny_pyIter_range hr hsm ?_
  have W := Walks.range (prog := prog) (w := w) hh s₁.heap.objs.size 0 1 n
  have notI : ∀ c o, s₁.heap.get? c = some o → c ∉ [s₁.heap.objs.size] := fun c o e hm => absurd (Heap.lt_size e) ((List.mem_singleton.mp hm) ▸ Nat.lt_irrefl _)
  have up : ∀ {h₃ : Heap}, (∀ q o, q ∉ [s₁.heap.objs.size] → (s₁.heap.push { cls := .type "range_iterator", data := .fields #[rawInt 0, rawInt (Builtin.Range.rangeSize 0 b 1), rawInt 1] }).get? q = some o → h₃.get? q = some o) → s₁.heap.StaysIn h₃ :=
    fun k c o e => k c o (notI c o e) (Heap.get?_push_of_some _ e)
  have val : ∀ (i : Nat) v, i < n → (∃ t, v = Value.int (0 + (i : Int) * 1) t) → ∃ t, v = Value.int (i : Int) t := fun i v _ ⟨t, e⟩ => ⟨t, by rw [e]; congr 1; omega⟩
  refine ⟨s₁.heap.objs.size, [s₁.heap.objs.size], [s₁.heap.objs.size], n, (fun i v => i < n ∧ ∃ t, v = .int (0 + (i : Int) * 1) t), _, rfl, W.bound, hsz, ?_, ?_, ⟨?_, ?_⟩, ?_⟩
  · show IsRangeIter _ _ _ _ _
    rw [hn]
    simpa using Heap.get?_push_size _ rfl
  · intro c hc
    rw [List.mem_singleton.mp hc]
    show s₁.heap.objs.size < (s₁.heap.push _).objs.size
    rw [Heap.size_push]
    exact Nat.lt_succ_self _
  · intro C i v s₃ m₃ E' _ hP hn' hm hold _
    obtain ⟨t', rfl⟩ := val i v hP.1 hP.2
    exact htests C i t' s₃ m₃ E' hP.1 hn' hm (up hold)
  · intro C i v s₃ m₃ E' _ hP hp hn' hm hold _
    obtain ⟨t', rfl⟩ := val i v hP.1 hP.2
    exact wpAny_mono (helt C i t' s₃ m₃ E' hP.1 (by simpa using hp) hn' hm (up hold)) (fun y s₄ h₄ => ⟨⟨i, t', rfl, h₄.1⟩, h₄.2⟩) fun _ _ e => e
  · intro D h' tk ys vs hD hl hpl hlen hP hF hk
    refine hQ D h' tk ys ?_ hpl ?_ (up hk)
    · cases e : s₁.heap.get? D with
      | none => rfl
      | some o => rw [Heap.get?_push_of_some _ e] at hD; cases hD
    · have := paired_range (G := G) (pz := pz) vs 0 ys.toList (fun j v e => by
        obtain ⟨t', e'⟩ := val j v (hP j v e).1 (hP j v e).2
        exact ⟨t', by rw [e', Nat.zero_add]⟩) hF
      rw [hlen, ← List.range_eq_range'] at this
      exact this
end
theorem cellSees {h₀ h h₃ : Heap} {L : Addr} {news : List (Addr × Obj)} {env : Env} {x : Str} {c : Addr} {o : Obj} {v : Value} (N : News h₀ L h news) (st : h.StaysIn h₃) (hk : env.scope.kind = .function) (hx : env.kindOf x = some .cell) (hc : env.cells.lookup x = some c)
    (hm : (c, o) ∈ news) (hd : o.data = .cell (some v)) : Sees env h₃ x v := .cell c hk hx hc ⟨o, st _ _ (N _ hm).1, hd⟩
theorem globSees {K : Frag} {p : Program} {loose : List Str} {mean : ExcName → Option Value} {mg mb : Str → Option Value} {h h₃ : Heap} {env : Env} {x : Str} {v : Value} (X : K.In h) (T : Top p loose mean mg mb h) (st : h.StaysIn h₃) (hk : env.scope.kind = .function) (hx : env.kindOf x = some .globalImplicit) (hg : env.globals = mainGlobals)
    (e : nsIn K mainGlobals x = some (some v)) : Sees env h₃ x v := .glob mg hk hx (by rw [hg]; exact T.g.keeps st) (mg_of X T.g e)
theorem bltSees {K : Frag} {p : Program} {loose : List Str} {mean : ExcName → Option Value} {mg mb : Str → Option Value} {h h₃ : Heap} {env : Env} {x : Str} {v : Value} (X : K.In h) (T : Top p loose mean mg mb h) (st : h.StaysIn h₃) (hk : env.scope.kind = .function) (hx : env.kindOf x = some .globalImplicit) (hg : env.globals = mainGlobals) (hb : env.builtins = builtinsNs)
    (e : nsIn K mainGlobals x = some none) (hn : x ≠ "__name__") (hv : bootBuiltins x = some v) : Sees env h₃ x v := .blt mg mb hk hx (by rw [hg]; exact T.g.keeps st) (mg_none_of X T.g e) (by rw [hb]; exact T.b.keeps st) ((T.builtins x hn).trans hv)
theorem stays_refl (h : Heap) : h.StaysIn h := fun _ _ e => e
theorem stays_trans {a b c : Heap} (x : a.StaysIn b) (y : b.StaysIn c) : a.StaysIn c := fun p o e => y p o (x p o e)

end
section
local macro_rules | `(tactic| walk_at "binaryOp Mod float float") => `(tactic| (refine AutoFloatOps.mod_1 (by decide +kernel) ?_; dsimp only [Made.post]))
local macro_rules | `(tactic| walk_at "my bar") => `(tactic| (
  (fail_if_success (with_reducible show wpAny _ _ (pyIter _) _ _ _)); (fail_if_success (with_reducible show wpAny _ _ (exec (Stmt.For _ _ _ _ _) _) _ _ _)); (fail_if_success (with_reducible show wpAny _ _ (eval (Expr.ListComp _ _ _ _) _) _ _ _)); (fail_if_success (with_reducible show wpAny _ _ (exec (Stmt.Assign _ (Expr.ListComp _ _ _ _) _) _) _ _ _))))
local macro_rules | `(tactic| walk_at "my go") => `(tactic| repeat' (first | (k_unfold; (try dsimp only)) | (walk_at "my bar"; walk1) | (walk_at "my bar"; dsimp only; walk_at "my bar"; walk1)))
local macro_rules | `(tactic| walk_at "my for") => `(tactic| (refine' forV ?k1 ?k2 ?k3 ?k4 ?_; (case k1 => k_asm); (case k2 => rfl); (case k3 => rfl); (case k4 => (intro _; rfl)); (try k_fold)))
local macro_rules | `(tactic| walk_at "eval Name") => `(tactic| (refine' Sees.at ?k1 ?k2 ?_ ?k3; (case k1 => assumption); (case k2 => assumption); (case k3 => decide)))
local macro_rules | `(tactic| walk_at "binaryOp Div int float") => `(tactic| (refine AutoFloatOps.truediv_if_2 (Float64.ofInt_fits (by assumption)) (by decide +kernel) ?_; dsimp only [Made.post]))
section
variable {prog : Program} {w : World} {A : Around} {E : Value → Shared → Prop} {s s₂ : Shared} {env : Env} {h₀ : Heap} {x : Str} {body : List Stmt} {Q : Flow → Shared → Prop}
def GEnd (itc : Value) (h₀ : Heap) (L : Addr) (J : (Str → Option Value) → List (Addr × Obj) → Prop) (own : List (Addr × Obj)) (s₁ s₂ : Shared) : Prop :=
  ∃ h' tk m' news', s₂ = { s₁ with heap := h', toks := tk } ∧ Fr h₀ L h' m' ∧ News h₀ L h' (news' ++ own) ∧ (∀ p ∈ news', p.2.cls ≠ itc) ∧ J m' news'
def GPost (itc : Value) (h₀ : Heap) (L : Addr) (J : (Str → Option Value) → List (Addr × Obj) → Prop) (own : List (Addr × Obj)) (s₁ : Shared) (Q : Flow → Shared → Prop) (f : Flow) (s₂ : Shared) : Prop :=
  match f with
  | .ret v => Q (.ret v) s₂
  | .brk => Q .next s₂
  | _ => GEnd itc h₀ L J own s₁ s₂
theorem GPost.next {itc : Value} {L : Addr} {J : (Str → Option Value) → List (Addr × Obj) → Prop} {own : List (Addr × Obj)} {s₁ : Shared} {h' : Heap} {tk : Nat} {m' : Str → Option Value} (news' : List (Addr × Obj)) (F : Fr h₀ L h' m') (N : News h₀ L h' (news' ++ own)) (ha : ∀ p ∈ news', p.2.cls ≠ itc) (j : J m' news') :
    GPost itc h₀ L J own s₁ Q .next { s₁ with heap := h', toks := tk } := ⟨h', tk, m', news', rfl, F, N, ha, j⟩
theorem loopG {I : Addr} {fp : List Addr} {n : Nat} {P : Nat → Value → Prop} {St : Nat → Heap → Prop} {m₀ : Str → Option Value} {news : List (Addr × Obj)} (itc : Value) (W : Walks prog w A I fp [I] n P St)
    (hcls : ∀ i h, St i h → ∃ o, h.get? I = some o ∧ o.cls = itc) (hI : h₀.get? I = none) (hfp : ∀ b ∈ fp, b = I ∨ ∃ o, h₀.get? b = some o)
    (hL : env.locals ∉ fp) (hst : St 0 s₂.heap) (F : Fr h₀ env.locals s₂.heap m₀) (N : News h₀ env.locals s₂.heap news) (hnc : ∀ p ∈ news, p.2.cls ≠ itc)
    (J : Nat → (Str → Option Value) → List (Addr × Obj) → Prop) (hj : J 0 m₀ news)
    (turn : ∀ i v m₁ news₁ h tk own, i < n → P i v → OwnOff own (news₁.map (·.1)) → (∀ p ∈ news₁, p.2.cls ≠ itc) → J i m₁ news₁ → Fr h₀ env.locals h (fun y => if y = x then some v else m₁ y) → News h₀ env.locals h (news₁ ++ own) →
      wpAny (model prog w) A (execs body env) (GPost itc h₀ env.locals (J (i + 1)) own { s₂ with heap := h, toks := tk } Q) E { s₂ with heap := h, toks := tk })
    (done : ∀ m₁ news₁ h tk, J n m₁ news₁ → Fr h₀ env.locals h m₁ → News h₀ env.locals h news₁ → Q .next { s₂ with heap := h, toks := tk }) :
    LoopAtV prog w A h₀ env x body Q E (.ref I) s₂ := by
  let J' : Nat → (Str → Option Value) → List (Addr × Obj) → Prop := fun i m₁ news₁ => (∀ p ∈ news₁, p.2.cls ≠ itc) ∧ J i m₁ news₁
  refine ⟨I, fp, [I], n, P, St, m₀, news, J', rfl, W, hL, ?_, ?_, hst, F, N, ⟨hnc, hj⟩, ?_, ?_⟩
  · intro b hb; rw [List.mem_singleton.mp hb]; exact hI
  · intro p hp hq
    obtain ⟨o, ho, hc⟩ := hcls _ _ hst
    have := (N p hp).1
    rw [List.mem_singleton.mp hq, ho] at this
    exact hnc p hp (by rw [← Option.some.inj this]; exact hc)
  · rintro i v m₁ news₁ s₁ own ⟨h, tk, rfl⟩ hin hP ⟨hadr, hJ⟩ hno hown hget hall hst₁ F₁ N₁
    have hsep : OwnOff own (news₁.map (·.1)) := by
      intro p hp b hb e
      obtain ⟨q, hq, rfl⟩ := List.mem_map.mp hb
      rcases hfp _ (hown p hp) with h1 | ⟨o, h1⟩
      · exact hno q hq (by rw [← e, h1]; exact List.mem_singleton.mpr rfl)
      · have := (N₁ q (List.mem_append_right _ hq)).2.2
        rw [← e, h1] at this
        cases this
    have N₂ : News h₀ env.locals h (news₁ ++ own) := fun p hp => N₁ p ((List.mem_append.mp hp).elim (fun h => List.mem_append.mpr (.inr h)) fun h => List.mem_append.mpr (.inl h))
    refine wpAny_mono (turn i v m₁ news₁ h tk own hin hP hsep hadr hJ F₁ N₂) (fun f s₃ p => ?_) fun _ _ e => e
    have fin : GEnd itc h₀ env.locals (J (i + 1)) own { s₂ with heap := h, toks := tk } s₃ → LoopStepU h₀ env.locals [I] own (J' (i + 1)) { s₂ with heap := h, toks := tk } .next s₃ := by
      rintro ⟨h', tk', m', nx, e, F', N', ha, hm⟩
      refine ⟨rfl, h', tk', m', nx, e, F', fun p hp => N' p ((List.mem_append.mp hp).elim (fun h => List.mem_append.mpr (.inr h)) fun h => List.mem_append.mpr (.inl h)), fun p hp hq => ?_, ha, hm⟩
      obtain ⟨o, ho, hc⟩ := hcls _ _ hst₁
      have hmem := hall I (W.sub _ (List.mem_singleton.mpr rfl)) hI o ho
      have h1 := (N' _ (List.mem_append_right _ hmem)).1
      have h2 := (N' p (List.mem_append_left _ hp)).1
      rw [List.mem_singleton.mp hq, h1] at h2
      exact ha p hp (by rw [← Option.some.inj h2]; exact hc)
    cases f with
    | ret v => exact .ret p
    | brk => exact .brk p
    | next => exact .next (fin p)
    | cont => exact .cont (fin p)
  · rintro h' tk m' news' F' N' _ ⟨ha, hJ⟩
    exact done m' news' h' tk hJ F' N'

theorem iter_lstG {ax : Addr} {items : Array Value} {m₀ : Str → Option Value} {news : List (Addr × Obj)} (J : Nat → (Str → Option Value) → List (Addr × Obj) → Prop) (hh : A.handled = none) (hl : h₀.IsList ax items)
    (F : Fr h₀ env.locals s.heap m₀) (N : News h₀ env.locals s.heap news) (hnc : ∀ p ∈ news, p.2.cls ≠ .type "list_iterator") (hj : J 0 m₀ news)
    (turn : ∀ i v m₁ news₁ h tk own, i < items.size → items[i]? = some v → OwnOff own (news₁.map (·.1)) → (∀ p ∈ news₁, p.2.cls ≠ .type "list_iterator") → J i m₁ news₁ → Fr h₀ env.locals h (fun y => if y = x then some v else m₁ y) → News h₀ env.locals h (news₁ ++ own) →
      wpAny (model prog w) A (execs body env) (GPost (.type "list_iterator") h₀ env.locals (J (i + 1)) own { s with heap := h, toks := tk } Q) E { s with heap := h, toks := tk })
    (done : ∀ m₁ news₁ h tk, J items.size m₁ news₁ → Fr h₀ env.locals h m₁ → News h₀ env.locals h news₁ → Q .next { s with heap := h, toks := tk }) :
    wpAny (model prog w) A (pyIter (.ref ax)) (fun it s₂ => LoopAtV prog w A h₀ env x body Q E it s₂) E s := by
  have hls : s.heap.IsList ax items := hl.at fun o e => F.keep _ o e
  obtain ⟨ol, hol, hlr⟩ := id hl
  have hlt : ax < h₀.objs.size := Heap.lt_size hol
  have hne : ax ≠ s.heap.objs.size := Nat.ne_of_lt (Nat.lt_trans (Nat.lt_of_lt_of_le hlt F.above) F.ns.lt)
  refine wpAny_pyIter_list hls ?_
  refine loopG (s₂ := { s with heap := _ }) (.type "list_iterator") (Walks.list hh s.heap.objs.size ax hne items) ?_ (next_is_new F) ?_ ?_ ⟨⟨_, Heap.get?_push_size _ rfl, rfl, rfl⟩, hls.at fun o e => Heap.get?_push_of_some _ e⟩ (F.push _) (fun p hp => ⟨Heap.get?_push_of_some _ (N p hp).1, (N p hp).2⟩) hnc J hj turn done
  · rintro i h ⟨⟨o, ho, hc, _⟩, _⟩
    exact ⟨o, ho, hc⟩
  · intro b hb
    rcases List.mem_cons.mp hb with e | hb
    · exact .inl e
    · exact .inr ⟨ol, by rw [List.mem_singleton.mp hb]; exact hol⟩
  · intro hm
    rcases List.mem_cons.mp hm with e | hm
    · exact absurd F.ns.lt (e ▸ Nat.lt_irrefl _)
    · exact absurd (Nat.lt_of_lt_of_le hlt F.above) ((List.mem_singleton.mp hm) ▸ Nat.lt_irrefl _)
end
theorem news_cong {h₀ h : Heap} {L : Addr} {a b : List (Addr × Obj)} (N : News h₀ L h a) (k : ∀ p ∈ b, p ∈ a) : News h₀ L h b := fun p hp => N p (k p hp)

end
section
local macro_rules | `(tactic| walk_at "binaryOp Mod float float") => `(tactic| (refine AutoFloatOps.mod_1 (by decide +kernel) ?_; dsimp only [Made.post]))
local macro_rules | `(tactic| walk_at "my bar") => `(tactic| (
  (fail_if_success (with_reducible show wpAny _ _ (pyIter _) _ _ _)); (fail_if_success (with_reducible show wpAny _ _ (exec (Stmt.For _ _ _ _ _) _) _ _ _)); (fail_if_success (with_reducible show wpAny _ _ (eval (Expr.ListComp _ _ _ _) _) _ _ _)); (fail_if_success (with_reducible show wpAny _ _ (exec (Stmt.Assign _ (Expr.ListComp _ _ _ _) _) _) _ _ _))))
local macro_rules | `(tactic| walk_at "my go") => `(tactic| repeat' (first | (k_unfold; (try dsimp only)) | (walk_at "my bar"; walk1) | (walk_at "my bar"; dsimp only; walk_at "my bar"; walk1)))
local macro_rules | `(tactic| walk_at "my for") => `(tactic| (refine' forV ?k1 ?k2 ?k3 ?k4 ?_; (case k1 => k_asm); (case k2 => rfl); (case k3 => rfl); (case k4 => (intro _; rfl)); (try k_fold)))
local macro_rules | `(tactic| walk_at "eval Name") => `(tactic| (refine' Sees.at ?k1 ?k2 ?_ ?k3; (case k1 => assumption); (case k2 => assumption); (case k3 => decide)))
local macro_rules | `(tactic| walk_at "binaryOp Div int float") => `(tactic| (refine AutoFloatOps.truediv_if_2 (Float64.ofInt_fits (by assumption)) (by decide +kernel) ?_; dsimp only [Made.post]))
variable {w : World} {mean : ExcName → Option Value} {mg mb : Str → Option Value} {base : Heap} {dp un : Nat} {fr : Option (List Env)} {gd : Option (List Code)} {s : Shared}
def vF (m1 m2 hue : UInt64) : UInt64 :=
  if (Float64.cmp (Float64.divmod hue 4607182418800017408).snd 4595172819793696085 == some Ordering.lt) then Float64.add m1 (Float64.mul (Float64.mul (Float64.sub m2 m1) (Float64.divmod hue 4607182418800017408).snd) 4618441417868443648)
  else if (Float64.cmp (Float64.divmod hue 4607182418800017408).snd 4602678819172646912 == some Ordering.lt) then m2
  else if (Float64.cmp (Float64.divmod hue 4607182418800017408).snd 4604180019048437077 == some Ordering.lt) then Float64.add m1 (Float64.mul (Float64.mul (Float64.sub m2 m1) (Float64.sub 4604180019048437077 (Float64.divmod hue 4607182418800017408).snd)) 4618441417868443648)
  else m1
theorem c_v (X₀ : (hd.heap_39 w.params).In base) (T₀ : Top hd.view_39 Lv mean mg mb base) (st : base.StaysIn s.heap) (hA : dp + 1 < recursionLimit)
   (m1 m2 hue : UInt64) (t1 t2 t3 : Tok) : wpAny (model Pr w) (Ar dp un fr gd) (call (.ref 35) [.float m1 t1, .float m2 t2, .float hue t3]) (Post s fun v _ => ∃ t, v = .float (vF m1 m2 hue) t) (fun _ _ => False) s := by
  have X := X₀.keeps st
  have T := T₀.keeps st
  clear X₀ T₀ st
  refine' enter [(Str.ofString "m1", .float m1 t1), (Str.ofString "m2", .float m2 t2), (Str.ofString "hue", .float hue t3)] ?k1 ?k2 ?k3 ?k6 ?k7 ?k8 ?k9 ?kB ?_ ?c5 ?c2 ?c3 ?c4; (case k1 => k_asm); (case k2 => first | assumption | exact fun _ _ e => e); (case k3 => exact Top.nolimit (by assumption)); (case k6 => k_is); (case k7 => k_is); (case k8 => (dsimp only [Ar]; omega)); (case k9 => exact BindsTo.of_eq rfl); (case c5 => decide); (case kB => exact locs rfl); (case c2 => exact rfl); (case c3 => exact rfl); (case c4 => exact rfl); k_whole; intro h₁ F N; dsimp only [List.length, List.reverse, List.reverseAux]; k_fold
  k_steps
  all_goals (refine Post.intro (by assumption) ?_; unfold vF; simp only [*, if_true, Bool.false_eq_true, if_false]; exact ⟨_, rfl⟩)
def Rgb (h : Heap) (v : Value) (c : UInt64 × UInt64 × UInt64) : Prop := ∃ l t1 t2 t3, v = .ref l ∧ IsTup h l #[.float c.1 t1, .float c.2.1 t2, .float c.2.2 t3]
local macro_rules | `(tactic| walk_at "call ref") => `(tactic| ((with_reducible show wpAny _ _ (call (Value.ref 35) _) _ _ _); refine' useK ?k1 ?k2 (c_v ?k3 ?k4 ?k5 ?k6 _ _ _ _ _ _) ?_; (case k1 => k_asm); (case k2 => k_asm); (case k3 => k_asm); (case k4 => assumption); (case k5 => exact Fr.keep (by k_asm)); (case k6 => (dsimp only [Ar, Around.deeper]; omega)); intro v' h' tk' K' F' N' P'; obtain ⟨t', P'⟩ := P'; subst P'; (try k_sweep)))
def hlsF (h l s : UInt64) : UInt64 × UInt64 × UInt64 :=
  if (Float64.cmp s 0 == some Ordering.eq) then (l, l, l)
  else if (Float64.cmp l 4602678819172646912 == some Ordering.lt || Float64.cmp l 4602678819172646912 == some Ordering.eq) then
    (vF (Float64.sub (Float64.mul 4611686018427387904 l) (Float64.mul l (Float64.add 4607182418800017408 s))) (Float64.mul l (Float64.add 4607182418800017408 s)) (Float64.add h 4599676419421066581),
     vF (Float64.sub (Float64.mul 4611686018427387904 l) (Float64.mul l (Float64.add 4607182418800017408 s))) (Float64.mul l (Float64.add 4607182418800017408 s)) h,
     vF (Float64.sub (Float64.mul 4611686018427387904 l) (Float64.mul l (Float64.add 4607182418800017408 s))) (Float64.mul l (Float64.add 4607182418800017408 s)) (Float64.sub h 4599676419421066581))
  else
    (vF (Float64.sub (Float64.mul 4611686018427387904 l) (Float64.sub (Float64.add l s) (Float64.mul l s))) (Float64.sub (Float64.add l s) (Float64.mul l s)) (Float64.add h 4599676419421066581),
     vF (Float64.sub (Float64.mul 4611686018427387904 l) (Float64.sub (Float64.add l s) (Float64.mul l s))) (Float64.sub (Float64.add l s) (Float64.mul l s)) h,
     vF (Float64.sub (Float64.mul 4611686018427387904 l) (Float64.sub (Float64.add l s) (Float64.mul l s))) (Float64.sub (Float64.add l s) (Float64.mul l s)) (Float64.sub h 4599676419421066581))
theorem isTup_new {h₀ h : Heap} {L D : Addr} {vs : Array Value} {n : Nat} {news : List (Addr × Obj)} (N : News h₀ L h ((D, { cls := Value.type "tuple", data := Data.seq vs n }) :: news)) : IsTup h D vs := ⟨_, (N _ (.head _)).1, rfl, n, rfl⟩
theorem c_hls (X₀ : (hd.heap_39 w.params).In base) (T₀ : Top hd.view_39 Lv mean mg mb base) (st : base.StaysIn s.heap) (hA : dp + 2 < recursionLimit)
   (h l sa : UInt64) (t1 t2 t3 : Tok) : wpAny (model Pr w) (Ar dp un fr gd) (call (.ref 28) [.float h t1, .float l t2, .float sa t3]) (Post s fun v h' => Rgb h' v (hlsF h l sa)) (fun _ _ => False) s := by
  have X := X₀.keeps st
  have T := T₀.keeps st
  clear X₀ T₀ st
  refine' enter [(Str.ofString "h", .float h t1), (Str.ofString "l", .float l t2), (Str.ofString "s", .float sa t3)] ?k1 ?k2 ?k3 ?k6 ?k7 ?k8 ?k9 ?kB ?_ ?c5 ?c2 ?c3 ?c4; (case k1 => k_asm); (case k2 => first | assumption | exact fun _ _ e => e); (case k3 => exact Top.nolimit (by assumption)); (case k6 => k_is); (case k7 => k_is); (case k8 => (dsimp only [Ar]; omega)); (case k9 => exact BindsTo.of_eq rfl); (case c5 => decide); (case kB => exact locs rfl); (case c2 => exact rfl); (case c3 => exact rfl); (case c4 => exact rfl); k_whole; intro h₁ F N; dsimp only [List.length, List.reverse, List.reverseAux]; k_fold
  k_steps
  all_goals (refine Post.intro (by assumption) ?_; unfold hlsF; simp only [*, if_true, Bool.false_eq_true, if_false]; exact ⟨_, _, _, _, rfl, isTup_new (by assumption)⟩)
def toI (x : UInt64) : Int := PySem.Flt.toInt Float64.truncOf x
theorem int_fin {A : Around} {prog : Program} {Q E : Value → Shared → Prop} {x : UInt64} {t : Tok} (hf : Float64.isFinite x = true) (h : Q (.int (toI x) s.toks) { s with toks := s.toks + 1 }) : wpAny (model prog w) A (call (.type "int") [.float x t]) Q E s := by
  rcases PySem.Flt.three x with ⟨hd, c⟩ | ⟨_, hd, c⟩ | ⟨sg, m, e, hd, c⟩
  · unfold Float64.isFinite at hf; rw [hd] at hf; cases hf
  · unfold Float64.isFinite at hf; rw [hd] at hf; cases hf
  · refine call_int_float hd ?_
    unfold toI at h
    rw [PySem.Flt.toInt_fin hd] at h
    exact h
local macro_rules | `(tactic| walk_at "call type:int") => `(tactic| ((with_reducible show wpAny _ _ (call (Value.type "int") [Value.float _ _]) _ _ _); refine int_fin (by assumption) ?_))
local macro_rules | `(tactic| walk_at "binaryOp Sub float int") => `(tactic| ((with_reducible show wpAny _ _ (binaryOp Operator.Sub (Value.float _ _) (Value.int _ _)) _ _ _); refine sub_fi_fits (by assumption) ?_))
def hsvF (h s v : UInt64) : UInt64 × UInt64 × UInt64 :=
  if (Float64.cmp s 0 == some Ordering.eq) = true then (v, v, v)
  else if (toI (Float64.mul h 4618441417868443648)).fmod 6 = 0 then (v, Float64.mul v (Float64.sub 4607182418800017408 (Float64.mul s (Float64.sub 4607182418800017408 (Float64.sub (Float64.mul h 4618441417868443648) (Float64.ofInt (toI (Float64.mul h 4618441417868443648))))))), Float64.mul v (Float64.sub 4607182418800017408 s))
  else if (toI (Float64.mul h 4618441417868443648)).fmod 6 = 1 then (Float64.mul v (Float64.sub 4607182418800017408 (Float64.mul s (Float64.sub (Float64.mul h 4618441417868443648) (Float64.ofInt (toI (Float64.mul h 4618441417868443648)))))), v, Float64.mul v (Float64.sub 4607182418800017408 s))
  else if (toI (Float64.mul h 4618441417868443648)).fmod 6 = 2 then (Float64.mul v (Float64.sub 4607182418800017408 s), v, Float64.mul v (Float64.sub 4607182418800017408 (Float64.mul s (Float64.sub 4607182418800017408 (Float64.sub (Float64.mul h 4618441417868443648) (Float64.ofInt (toI (Float64.mul h 4618441417868443648))))))))
  else if (toI (Float64.mul h 4618441417868443648)).fmod 6 = 3 then (Float64.mul v (Float64.sub 4607182418800017408 s), Float64.mul v (Float64.sub 4607182418800017408 (Float64.mul s (Float64.sub (Float64.mul h 4618441417868443648) (Float64.ofInt (toI (Float64.mul h 4618441417868443648)))))), v)
  else if (toI (Float64.mul h 4618441417868443648)).fmod 6 = 4 then (Float64.mul v (Float64.sub 4607182418800017408 (Float64.mul s (Float64.sub 4607182418800017408 (Float64.sub (Float64.mul h 4618441417868443648) (Float64.ofInt (toI (Float64.mul h 4618441417868443648))))))), Float64.mul v (Float64.sub 4607182418800017408 s), v)
  else (v, Float64.mul v (Float64.sub 4607182418800017408 s), Float64.mul v (Float64.sub 4607182418800017408 (Float64.mul s (Float64.sub (Float64.mul h 4618441417868443648) (Float64.ofInt (toI (Float64.mul h 4618441417868443648)))))))
theorem c_hsv (X₀ : (hd.heap_39 w.params).In base) (T₀ : Top hd.view_39 Lv mean mg mb base) (st : base.StaysIn s.heap) (hA : dp + 2 < recursionLimit)
   (h sa va : UInt64) (t1 t2 t3 : Tok) (hf : Float64.isFinite (Float64.mul h 4618441417868443648) = true) (hi : (toI (Float64.mul h 4618441417868443648)).natAbs < 2 ^ 1023) : wpAny (model Pr w) (Ar dp un fr gd) (call (.ref 42) [.float h t1, .float sa t2, .float va t3]) (Post s fun v h' => Rgb h' v (hsvF h sa va)) (fun _ _ => False) s := by
  have X := X₀.keeps st
  have T := T₀.keeps st
  clear X₀ T₀ st
  have h6 : 0 ≤ (toI (Float64.mul h 4618441417868443648)).fmod 6 ∧ (toI (Float64.mul h 4618441417868443648)).fmod 6 < 6 := ⟨Int.fmod_nonneg_of_pos _ (by decide), Int.fmod_lt_of_pos _ (by decide)⟩
  refine' enter [(Str.ofString "h", .float h t1), (Str.ofString "s", .float sa t2), (Str.ofString "v", .float va t3)] ?k1 ?k2 ?k3 ?k6 ?k7 ?k8 ?k9 ?kB ?_ ?c5 ?c2 ?c3 ?c4; (case k1 => k_asm); (case k2 => first | assumption | exact fun _ _ e => e); (case k3 => exact Top.nolimit (by assumption)); (case k6 => k_is); (case k7 => k_is); (case k8 => (dsimp only [Ar]; omega)); (case k9 => exact BindsTo.of_eq rfl); (case c5 => decide); (case kB => exact locs rfl); (case c2 => exact rfl); (case c3 => exact rfl); (case c4 => exact rfl); k_whole; intro h₁ F N; dsimp only [List.length, List.reverse, List.reverseAux]; k_fold
  k_steps
  all_goals first
    | (refine Post.intro (by assumption) ?_; unfold hsvF; simp only [*, if_true, Bool.false_eq_true, if_false]; exact ⟨_, _, _, _, rfl, isTup_new (by assumption)⟩)
    | (exfalso; omega)

end
section
local macro_rules | `(tactic| walk_at "binaryOp Mod float float") => `(tactic| (refine AutoFloatOps.mod_1 (by decide +kernel) ?_; dsimp only [Made.post]))
local macro_rules | `(tactic| walk_at "my bar") => `(tactic| (
  (fail_if_success (with_reducible show wpAny _ _ (pyIter _) _ _ _)); (fail_if_success (with_reducible show wpAny _ _ (exec (Stmt.For _ _ _ _ _) _) _ _ _)); (fail_if_success (with_reducible show wpAny _ _ (eval (Expr.ListComp _ _ _ _) _) _ _ _)); (fail_if_success (with_reducible show wpAny _ _ (exec (Stmt.Assign _ (Expr.ListComp _ _ _ _) _) _) _ _ _))))
local macro_rules | `(tactic| walk_at "my go") => `(tactic| repeat' (first | (k_unfold; (try dsimp only)) | (walk_at "my bar"; walk1) | (walk_at "my bar"; dsimp only; walk_at "my bar"; walk1)))
local macro_rules | `(tactic| walk_at "my for") => `(tactic| (refine' forV ?k1 ?k2 ?k3 ?k4 ?_; (case k1 => k_asm); (case k2 => rfl); (case k3 => rfl); (case k4 => (intro _; rfl)); (try k_fold)))
local macro_rules | `(tactic| walk_at "eval Name") => `(tactic| (refine' Sees.at ?k1 ?k2 ?_ ?k3; (case k1 => assumption); (case k2 => assumption); (case k3 => decide)))
local macro_rules | `(tactic| walk_at "binaryOp Div int float") => `(tactic| (refine AutoFloatOps.truediv_if_2 (Float64.ofInt_fits (by assumption)) (by decide +kernel) ?_; dsimp only [Made.post]))
local macro_rules | `(tactic| walk_at "call ref") => `(tactic| ((with_reducible show wpAny _ _ (call (Value.ref 35) _) _ _ _); refine' useK ?k1 ?k2 (c_v ?k3 ?k4 ?k5 ?k6 _ _ _ _ _ _) ?_; (case k1 => k_asm); (case k2 => k_asm); (case k3 => k_asm); (case k4 => assumption); (case k5 => exact Fr.keep (by k_asm)); (case k6 => (dsimp only [Ar, Around.deeper]; omega)); intro v' h' tk' K' F' N' P'; obtain ⟨t', P'⟩ := P'; subst P'; (try k_sweep)))
local macro_rules | `(tactic| walk_at "call type:int") => `(tactic| ((with_reducible show wpAny _ _ (call (Value.type "int") [Value.float _ _]) _ _ _); refine int_fin (by assumption) ?_))
local macro_rules | `(tactic| walk_at "binaryOp Sub float int") => `(tactic| ((with_reducible show wpAny _ _ (binaryOp Operator.Sub (Value.float _ _) (Value.int _ _)) _ _ _); refine sub_fi_fits (by assumption) ?_))
variable {w : World} {mean : ExcName → Option Value} {mg mb : Str → Option Value} {base : Heap} {dp un : Nat} {fr : Option (List Env)} {gd : Option (List Code)} {s : Shared}
def digit (x : UInt64) : Int := toI (Float64.add (Float64.mul x 4629700416936869888) 4602678819172646912)
def digitOk (x : UInt64) : Bool := Float64.isFinite (Float64.add (Float64.mul x 4629700416936869888) 4602678819172646912) && decide (0 ≤ digit x) && decide (digit x ≤ 32)
theorem c_sign (X₀ : (hd.heap_39 w.params).In base) (T₀ : Top hd.view_39 Lv mean mg mb base) (st : base.StaysIn s.heap) (hA : dp + 1 < recursionLimit)
   (l : Addr) (r g b : UInt64) (t1 t2 t3 : Tok) (hl : IsTup s.heap l #[.float r t1, .float g t2, .float b t3]) (hr : digitOk r = true) (hg : digitOk g = true) (hb : digitOk b = true) :
   wpAny (model Pr w) (Ar dp un fr gd) (call (.ref 49) [.ref l]) (Post s fun v h' => ∃ t, v = .str (Str.mk #[256 + ((digit r).toNat * 33 + (digit g).toNat) * 33 + (digit b).toNat]) t) (fun _ _ => False) s := by
  have X := X₀.keeps st
  have T := T₀.keeps st
  clear X₀ T₀ st
  refine' enter [(Str.ofString "colour", .ref l)] ?k1 ?k2 ?k3 ?k6 ?k7 ?k8 ?k9 ?kB ?_ ?c5 ?c2 ?c3 ?c4; (case k1 => k_asm); (case k2 => first | assumption | exact fun _ _ e => e); (case k3 => exact Top.nolimit (by assumption)); (case k6 => k_is); (case k7 => k_is); (case k8 => (dsimp only [Ar]; omega)); (case k9 => exact BindsTo.of_eq rfl); (case c5 => decide); (case kB => exact locs rfl); (case c2 => exact rfl); (case c3 => exact rfl); (case c4 => exact rfl); k_whole; intro h₁ F N; dsimp only [List.length, List.reverse, List.reverseAux]; k_fold
  walk_at "my go"
  walk_at "my for"
  walk_at "my go"
  refine iter_tup (fun i m news => news = [] ∧ ∃ t c, m (Str.ofString "code") = some (.int c t) ∧ (i = 0 → c = 0) ∧ (i = 1 → c = digit r) ∧ (i = 2 → c = digit r * 33 + digit g) ∧ (i = 3 → c = (digit r * 33 + digit g) * 33 + digit b)) rfl (hl.keeps (Fr.keep (by assumption))) (by assumption) (by assumption) (Nat.ne_of_lt hl.lt) (fun p h => by cases h) ⟨rfl, _, _, rfl, by simp, by simp, by simp, by simp⟩ ?_ ?_
  · intro i v m₁ news₁ h tk own hi hv ha ho hj F N
    obtain ⟨rfl, tc, c, hc, h0, h1, h2, h3⟩ := hj
    replace F : Fr s.heap s.heap.objs.size h _ := frAs F (Str.ofString "code") hc
    replace N : News s.heap s.heap.objs.size h own := N
    simp only [digitOk, Bool.and_eq_true, decide_eq_true_eq] at hr hg hb
    have hv' : ∃ x t, v = .float x t ∧ Float64.isFinite (Float64.add (Float64.mul x 4629700416936869888) 4602678819172646912) = true ∧ 0 ≤ digit x ∧ digit x ≤ 32 ∧ (i = 0 ∧ x = r ∨ i = 1 ∧ x = g ∨ i = 2 ∧ x = b) := by
      have : i = 0 ∨ i = 1 ∨ i = 2 := by simp at hi; omega
      rcases this with rfl | rfl | rfl
      · cases hv; exact ⟨_, _, rfl, hr.1.1, hr.1.2, hr.2, .inl ⟨rfl, rfl⟩⟩
      · cases hv; exact ⟨_, _, rfl, hg.1.1, hg.1.2, hg.2, .inr (.inl ⟨rfl, rfl⟩)⟩
      · cases hv; exact ⟨_, _, rfl, hb.1.1, hb.1.2, hb.2, .inr (.inr ⟨rfl, rfl⟩)⟩
    obtain ⟨x, tx, rfl, hf, hx0, hx1, hx⟩ := hv'
    have hcb : 0 ≤ c ∧ c < 40000 := by
      rcases hx with ⟨rfl, rfl⟩ | ⟨rfl, rfl⟩ | ⟨rfl, rfl⟩
      · have := h0 rfl; omega
      · have := h1 rfl; omega
      · have := h2 rfl; omega
    clear hv hi ha ho
    walk_at "my go"
    refine TPost.next [] (by assumption) (by assumption) rfl ⟨rfl, _, _, rfl, ?_, ?_, ?_, ?_⟩
    · omega
    all_goals
      intro hi
      rcases hx with ⟨rfl, rfl⟩ | ⟨rfl, rfl⟩ | ⟨rfl, rfl⟩ <;> first | omega | skip
    · rw [h0 rfl, Int.zero_mul, Int.zero_add]; rfl
    · rw [h1 rfl]; rfl
    · rw [h2 rfl]; rfl
  · intro m₁ news₁ h tk hj ha F N
    obtain ⟨rfl, tc, c, hc, h0, h1, h2, h3⟩ := hj
    replace F : Fr s.heap s.heap.objs.size h _ := frAs F (Str.ofString "code") hc
    replace N : News s.heap s.heap.objs.size h [] := N
    replace h3 := h3 rfl
    clear h0 h1 h2 ha hc
    simp only [digitOk, Bool.and_eq_true, decide_eq_true_eq] at hr hg hb
    have hc0 : 0 ≤ 256 + c := by omega
    have hc1 : 256 + c ≤ 1114111 := by omega
    walk_at "my go"
    have e : (256 + c).toNat = 256 + ((digit r).toNat * 33 + (digit g).toNat) * 33 + (digit b).toNat := by omega
    rw [e]
    exact Post.intro (by assumption) ⟨_, rfl⟩

end
section
local macro_rules | `(tactic| walk_at "binaryOp Mod float float") => `(tactic| (refine AutoFloatOps.mod_1 (by decide +kernel) ?_; dsimp only [Made.post]))
local macro_rules | `(tactic| walk_at "my bar") => `(tactic| (
  (fail_if_success (with_reducible show wpAny _ _ (pyIter _) _ _ _)); (fail_if_success (with_reducible show wpAny _ _ (exec (Stmt.For _ _ _ _ _) _) _ _ _)); (fail_if_success (with_reducible show wpAny _ _ (eval (Expr.ListComp _ _ _ _) _) _ _ _)); (fail_if_success (with_reducible show wpAny _ _ (exec (Stmt.Assign _ (Expr.ListComp _ _ _ _) _) _) _ _ _))))
local macro_rules | `(tactic| walk_at "my go") => `(tactic| repeat' (first | (k_unfold; (try dsimp only)) | (walk_at "my bar"; walk1) | (walk_at "my bar"; dsimp only; walk_at "my bar"; walk1)))
local macro_rules | `(tactic| walk_at "my for") => `(tactic| (refine' forV ?k1 ?k2 ?k3 ?k4 ?_; (case k1 => k_asm); (case k2 => rfl); (case k3 => rfl); (case k4 => (intro _; rfl)); (try k_fold)))
local macro_rules | `(tactic| walk_at "eval Name") => `(tactic| (refine' Sees.at ?k1 ?k2 ?_ ?k3; (case k1 => assumption); (case k2 => assumption); (case k3 => decide)))
local macro_rules | `(tactic| walk_at "binaryOp Div int float") => `(tactic| (refine AutoFloatOps.truediv_if_2 (Float64.ofInt_fits (by assumption)) (by decide +kernel) ?_; dsimp only [Made.post]))
local macro_rules | `(tactic| walk_at "call ref") => `(tactic| ((with_reducible show wpAny _ _ (call (Value.ref 35) _) _ _ _); refine' useK ?k1 ?k2 (c_v ?k3 ?k4 ?k5 ?k6 _ _ _ _ _ _) ?_; (case k1 => k_asm); (case k2 => k_asm); (case k3 => k_asm); (case k4 => assumption); (case k5 => exact Fr.keep (by k_asm)); (case k6 => (dsimp only [Ar, Around.deeper]; omega)); intro v' h' tk' K' F' N' P'; obtain ⟨t', P'⟩ := P'; subst P'; (try k_sweep)))
local macro_rules | `(tactic| walk_at "call type:int") => `(tactic| ((with_reducible show wpAny _ _ (call (Value.type "int") [Value.float _ _]) _ _ _); refine int_fin (by assumption) ?_))
local macro_rules | `(tactic| walk_at "binaryOp Sub float int") => `(tactic| ((with_reducible show wpAny _ _ (binaryOp Operator.Sub (Value.float _ _) (Value.int _ _)) _ _ _); refine sub_fi_fits (by assumption) ?_))
def sgnF (c : UInt64 × UInt64 × UInt64) : Nat := 256 + ((digit c.1).toNat * 33 + (digit c.2.1).toNat) * 33 + (digit c.2.2).toNat
def colOk (c : UInt64 × UInt64 × UInt64) : Bool := digitOk c.1 && digitOk c.2.1 && digitOk c.2.2
/-- the ring's share and level (hsv) -/
def ringV (r : Nat) : UInt64 × UInt64 := match r with
  | 0 => (4602678819172646912, 4602678819172646912) | 1 => (4607182418800017408, 4602678819172646912) | 2 => (4602678819172646912, 4607182418800017408) | _ => (4607182418800017408, 4607182418800017408)
def hueF (n : Int) : UInt64 := Float64.div (Float64.ofInt n) 4625196817309499392
def hsvAt (r : Nat) (n : Int) : UInt64 × UInt64 × UInt64 := hsvF (hueF n) (ringV r).1 (ringV r).2
/-- light and share (hls) -/
def ringL (r : Nat) : UInt64 × UInt64 := match r with
  | 0 => (4600427019358961664, 4599676419421066581) | 1 => (4598175219545276416, 4607182418800017408) | 2 => (4604930618986332160, 4607182418800017408) | _ => (4602678819172646912, 4607182418800017408)
def hlsAt (r : Nat) (n : Int) : UInt64 × UInt64 × UInt64 := hlsF (hueF n) (ringL r).1 (ringL r).2
def tabW : List (List Nat) :=
  [[17952, 18051, 18150, 17127, 13860, 10593, 9506, 9509, 9512, 9413, 9314, 10337, 13604, 16871, 17958, 17955],
  [17680, 17878, 18076, 16030, 9496, 2962, 788, 794, 800, 602, 404, 2450, 8984, 15518, 17692, 17686],
  [35648, 35846, 36044, 33998, 27464, 20930, 18756, 18762, 18768, 18570, 18372, 20418, 26952, 33486, 35660, 35654],
  [35104, 35500, 35896, 31804, 18736, 5668, 1320, 1332, 1344, 948, 552, 4644, 17712, 30780, 35128, 35116]]
def W (r k : Nat) : Nat := (tabW.getD r []).getD k 0
def frac6 (h : UInt64) : UInt64 := Float64.sub h (Float64.ofInt (toI h))
def tabF : List UInt64 := [0, 4600427019358961664, 4604930618986332160, 4593671619917905920, 4602678819172646912, 4606056518893174784, 4598175219545276416, 4603804719079489536]
def h6 (n : Int) : UInt64 := Float64.mul (hueF n) 4618441417868443648
def stepOk (n : Nat) : Bool := Float64.isFinite (h6 n) && (toI (h6 n) == (3 * n / 8 : Nat)) && frac6 (h6 n) == tabF.getD (n % 8) 0
theorem step0 : ((List.range 100).all fun n => stepOk n) = true := by decide +kernel
theorem step1 : ((List.range 100).all fun n => stepOk (n + 100)) = true := by decide +kernel
theorem step2 : ((List.range 100).all fun n => stepOk (n + 200)) = true := by decide +kernel
theorem step3 : ((List.range 100).all fun n => stepOk (n + 300)) = true := by decide +kernel
theorem step4 : ((List.range 100).all fun n => stepOk (n + 400)) = true := by decide +kernel
theorem step5 : ((List.range 101).all fun n => stepOk (n + 500)) = true := by decide +kernel
theorem stepAll {n : Nat} (h : n ≤ 600) : stepOk n = true := by
  by_cases h0 : n < 100
  · exact List.all_eq_true.mp step0 n (List.mem_range.mpr h0)
  by_cases h1 : n < 200
  · have := List.all_eq_true.mp step1 (n - 100) (List.mem_range.mpr (by omega)); rwa [Nat.sub_add_cancel (by omega)] at this
  by_cases h2 : n < 300
  · have := List.all_eq_true.mp step2 (n - 200) (List.mem_range.mpr (by omega)); rwa [Nat.sub_add_cancel (by omega)] at this
  by_cases h3 : n < 400
  · have := List.all_eq_true.mp step3 (n - 300) (List.mem_range.mpr (by omega)); rwa [Nat.sub_add_cancel (by omega)] at this
  by_cases h4 : n < 500
  · have := List.all_eq_true.mp step4 (n - 400) (List.mem_range.mpr (by omega)); rwa [Nat.sub_add_cancel (by omega)] at this
  have := List.all_eq_true.mp step5 (n - 500) (List.mem_range.mpr (by omega)); rwa [Nat.sub_add_cancel (by omega)] at this
theorem h6_facts {n : Nat} (h : n ≤ 600) : Float64.isFinite (h6 n) = true ∧ toI (h6 n) = (3 * n / 8 : Nat) ∧ frac6 (h6 n) = tabF.getD (n % 8) 0 := by
  have := stepAll h
  unfold stepOk at this
  simp only [Bool.and_eq_true, beq_iff_eq] at this
  exact ⟨this.1.1, this.1.2, this.2⟩
def hsvG (f : UInt64) (k : Int) (s v : UInt64) : UInt64 × UInt64 × UInt64 :=
  if (Float64.cmp s 0 == some Ordering.eq) = true then (v, v, v)
  else if k = 0 then (v, Float64.mul v (Float64.sub 4607182418800017408 (Float64.mul s (Float64.sub 4607182418800017408 f))), Float64.mul v (Float64.sub 4607182418800017408 s))
  else if k = 1 then (Float64.mul v (Float64.sub 4607182418800017408 (Float64.mul s f)), v, Float64.mul v (Float64.sub 4607182418800017408 s))
  else if k = 2 then (Float64.mul v (Float64.sub 4607182418800017408 s), v, Float64.mul v (Float64.sub 4607182418800017408 (Float64.mul s (Float64.sub 4607182418800017408 f))))
  else if k = 3 then (Float64.mul v (Float64.sub 4607182418800017408 s), Float64.mul v (Float64.sub 4607182418800017408 (Float64.mul s f)), v)
  else if k = 4 then (Float64.mul v (Float64.sub 4607182418800017408 (Float64.mul s (Float64.sub 4607182418800017408 f))), Float64.mul v (Float64.sub 4607182418800017408 s), v)
  else (v, Float64.mul v (Float64.sub 4607182418800017408 s), Float64.mul v (Float64.sub 4607182418800017408 (Float64.mul s f)))
theorem hsvF_G (n : Int) (s v : UInt64) : hsvF (hueF n) s v = hsvG (frac6 (h6 n)) ((toI (h6 n)).fmod 6) s v := rfl
theorem hsv_turn {n : Nat} (h : n ≤ 600) (r : Nat) : hsvAt r n = hsvAt r (n % 16 : Nat) := by
  unfold hsvAt
  rw [hsvF_G, hsvF_G]
  obtain ⟨_, a1, a2⟩ := h6_facts h
  obtain ⟨_, b1, b2⟩ := h6_facts (n := n % 16) (by omega)
  have e1 : n % 16 % 8 = n % 8 := by omega
  rw [a1, a2, b1, b2, e1]
  congr 1
  rw [Int.fmod_eq_emod_of_nonneg _ (by decide), Int.fmod_eq_emod_of_nonneg _ (by decide)]
  have q : 3 * n / 8 = 3 * (n % 16) / 8 + 6 * (n / 16) := by omega
  generalize 3 * (n % 16) / 8 = y at q
  rw [q]
  omega
theorem hsv16 : ((List.range 4).all fun r => (List.range 16).all fun (k : Nat) => colOk (hsvAt r k) && sgnF (hsvAt r k) == W r k) = true := by decide +kernel
theorem hls16 : ((List.range 4).all fun r => (List.range 16).all fun (k : Nat) => colOk (hlsAt r k) && sgnF (hlsAt r k) == W r k) = true := by decide +kernel
theorem hsv_is {r n : Nat} (hr : r < 4) (h : n ≤ 600) : colOk (hsvAt r n) = true ∧ sgnF (hsvAt r n) = W r (n % 16) := by
  rw [hsv_turn h]
  have := List.all_eq_true.mp (List.all_eq_true.mp hsv16 r (List.mem_range.mpr hr)) (n % 16) (List.mem_range.mpr (by omega))
  simp only [Bool.and_eq_true, beq_iff_eq] at this
  exact this
theorem hls_is {r n : Nat} (hr : r < 4) (h : n < 16) : colOk (hlsAt r n) = true ∧ sgnF (hlsAt r n) = W r n := by
  have := List.all_eq_true.mp (List.all_eq_true.mp hls16 r (List.mem_range.mpr hr)) n (List.mem_range.mpr h)
  simp only [Bool.and_eq_true, beq_iff_eq] at this
  exact this
theorem W_facts : ((List.range 4).all fun r => (List.range 16).all fun k => decide (256 ≤ W r k) && (List.range 16).all fun j => decide (W r k = W r j → k = j)) = true := by decide +kernel
theorem W_ge {r k : Nat} (hr : r < 4) (hk : k < 16) : 256 ≤ W r k := by
  have := List.all_eq_true.mp (List.all_eq_true.mp W_facts r (List.mem_range.mpr hr)) k (List.mem_range.mpr hk)
  simp only [Bool.and_eq_true, decide_eq_true_eq] at this
  exact this.1
theorem W_inj {r k j : Nat} (hr : r < 4) (hk : k < 16) (hj : j < 16) (e : W r k = W r j) : k = j := by
  have := List.all_eq_true.mp (List.all_eq_true.mp W_facts r (List.mem_range.mpr hr)) k (List.mem_range.mpr hk)
  simp only [Bool.and_eq_true] at this
  exact of_decide_eq_true (List.all_eq_true.mp this.2 j (List.mem_range.mpr hj)) e

end
section
local macro_rules | `(tactic| walk_at "binaryOp Mod float float") => `(tactic| (refine AutoFloatOps.mod_1 (by decide +kernel) ?_; dsimp only [Made.post]))
local macro_rules | `(tactic| walk_at "my bar") => `(tactic| (
  (fail_if_success (with_reducible show wpAny _ _ (pyIter _) _ _ _)); (fail_if_success (with_reducible show wpAny _ _ (exec (Stmt.For _ _ _ _ _) _) _ _ _)); (fail_if_success (with_reducible show wpAny _ _ (eval (Expr.ListComp _ _ _ _) _) _ _ _)); (fail_if_success (with_reducible show wpAny _ _ (exec (Stmt.Assign _ (Expr.ListComp _ _ _ _) _) _) _ _ _))))
local macro_rules | `(tactic| walk_at "my go") => `(tactic| repeat' (first | (k_unfold; (try dsimp only)) | (walk_at "my bar"; walk1) | (walk_at "my bar"; dsimp only; walk_at "my bar"; walk1)))
local macro_rules | `(tactic| walk_at "my for") => `(tactic| (refine' forV ?k1 ?k2 ?k3 ?k4 ?_; (case k1 => k_asm); (case k2 => rfl); (case k3 => rfl); (case k4 => (intro _; rfl)); (try k_fold)))
local macro_rules | `(tactic| walk_at "eval Name") => `(tactic| (refine' Sees.at ?k1 ?k2 ?_ ?k3; (case k1 => assumption); (case k2 => assumption); (case k3 => decide)))
local macro_rules | `(tactic| walk_at "binaryOp Div int float") => `(tactic| (refine AutoFloatOps.truediv_if_2 (Float64.ofInt_fits (by assumption)) (by decide +kernel) ?_; dsimp only [Made.post]))
local macro_rules | `(tactic| walk_at "call ref") => `(tactic| ((with_reducible show wpAny _ _ (call (Value.ref 35) _) _ _ _); refine' useK ?k1 ?k2 (c_v ?k3 ?k4 ?k5 ?k6 _ _ _ _ _ _) ?_; (case k1 => k_asm); (case k2 => k_asm); (case k3 => k_asm); (case k4 => assumption); (case k5 => exact Fr.keep (by k_asm)); (case k6 => (dsimp only [Ar, Around.deeper]; omega)); intro v' h' tk' K' F' N' P'; obtain ⟨t', P'⟩ := P'; subst P'; (try k_sweep)))
local macro_rules | `(tactic| walk_at "call type:int") => `(tactic| ((with_reducible show wpAny _ _ (call (Value.type "int") [Value.float _ _]) _ _ _); refine int_fin (by assumption) ?_))
local macro_rules | `(tactic| walk_at "binaryOp Sub float int") => `(tactic| ((with_reducible show wpAny _ _ (binaryOp Operator.Sub (Value.float _ _) (Value.int _ _)) _ _ _); refine sub_fi_fits (by assumption) ?_))
theorem strs_from {f : Nat → Str} : ∀ (ys : List Value) (k : Nat), (∀ i, i < ys.length → ∃ t, ys[i]? = some (.str (f (k + i)) t)) → StrsAre ys ((List.range' k ys.length).map f)
  | [], _, _ => .nil
  | y :: ys, k, h => by
    obtain ⟨t, e⟩ := h 0 (by simp)
    simp at e
    subst e
    rw [List.length_cons, List.range'_succ, List.map_cons]
    exact .cons _ t (strs_from ys (k + 1) fun i hi => by
      obtain ⟨t', e'⟩ := h (i + 1) (by simpa using hi)
      exact ⟨t', by rw [Nat.add_assoc, Nat.add_comm 1]; simpa using e'⟩)
theorem strs_of {f : Nat → Str} {ys : Array Value} {n : Nat} (hn : ys.size = n) (h : ∀ i, i < n → ∃ y, ys[i]? = some y ∧ ∃ t, y = .str (f i) t) : StrsAre ys.toList ((List.range n).map f) := by
  have := strs_from (f := f) ys.toList 0 fun i hi => by
    obtain ⟨y, e, t, rfl⟩ := h i (by simpa [← hn] using hi)
    exact ⟨t, by rw [Nat.zero_add]; simpa using e⟩
  rw [List.range_eq_range']
  simpa [hn] using this
theorem join_cons2 (sep x y : Str) (r : List Str) : Str.join sep (x :: y :: r) = x ++ sep ++ Str.join sep (y :: r) := rfl
theorem join_ones (g : Nat → Nat) : ∀ l : List Nat, Txt.join (Str.ofString "") (l.map fun i => Str.mk #[g i]) = Str.mk (l.map g).toArray := by
  intro l
  unfold Txt.join
  rw [StrLaws.glued_eq_join]
  induction l with
  | nil => rfl
  | cons a r ih =>
    cases r with
    | nil => rfl
    | cons b r =>
      rw [List.map_cons] at ih
      rw [List.map_cons, List.map_cons, join_cons2, ih]
      apply Str.ext'
      rw [Str.cps_append, Str.cps_append]
      have e : (Str.ofString "").cps = #[] := by decide +kernel
      rw [e]
      simp
theorem ones_weight (g : Nat → Nat) (l : List Nat) : ((l.map fun i => Str.mk #[g i]).map (·.length)).sum + (l.map fun i => Str.mk #[g i]).length = 2 * l.length := by
  induction l with
  | nil => rfl
  | cons a r ih =>
    simp only [List.map_cons, List.sum_cons, List.length_cons] at ih ⊢
    have e : (Str.mk #[g a]).length = 1 := rfl
    rw [e]
    omega

end
section
local macro_rules | `(tactic| walk_at "binaryOp Mod float float") => `(tactic| (refine AutoFloatOps.mod_1 (by decide +kernel) ?_; dsimp only [Made.post]))
local macro_rules | `(tactic| walk_at "my bar") => `(tactic| (
  (fail_if_success (with_reducible show wpAny _ _ (pyIter _) _ _ _)); (fail_if_success (with_reducible show wpAny _ _ (exec (Stmt.For _ _ _ _ _) _) _ _ _)); (fail_if_success (with_reducible show wpAny _ _ (eval (Expr.ListComp _ _ _ _) _) _ _ _)); (fail_if_success (with_reducible show wpAny _ _ (exec (Stmt.Assign _ (Expr.ListComp _ _ _ _) _) _) _ _ _))))
local macro_rules | `(tactic| walk_at "my go") => `(tactic| repeat' (first | (k_unfold; (try dsimp only)) | (walk_at "my bar"; walk1) | (walk_at "my bar"; dsimp only; walk_at "my bar"; walk1)))
local macro_rules | `(tactic| walk_at "my for") => `(tactic| (refine' forV ?k1 ?k2 ?k3 ?k4 ?_; (case k1 => k_asm); (case k2 => rfl); (case k3 => rfl); (case k4 => (intro _; rfl)); (try k_fold)))
local macro_rules | `(tactic| walk_at "eval Name") => `(tactic| (refine' Sees.at ?k1 ?k2 ?_ ?k3; (case k1 => assumption); (case k2 => assumption); (case k3 => decide)))
local macro_rules | `(tactic| walk_at "binaryOp Div int float") => `(tactic| (refine AutoFloatOps.truediv_if_2 (Float64.ofInt_fits (by assumption)) (by decide +kernel) ?_; dsimp only [Made.post]))
local macro_rules | `(tactic| walk_at "call ref") => `(tactic| ((with_reducible show wpAny _ _ (call (Value.ref 35) _) _ _ _); refine' useK ?k1 ?k2 (c_v ?k3 ?k4 ?k5 ?k6 _ _ _ _ _ _) ?_; (case k1 => k_asm); (case k2 => k_asm); (case k3 => k_asm); (case k4 => assumption); (case k5 => exact Fr.keep (by k_asm)); (case k6 => (dsimp only [Ar, Around.deeper]; omega)); intro v' h' tk' K' F' N' P'; obtain ⟨t', P'⟩ := P'; subst P'; (try k_sweep)))
local macro_rules | `(tactic| walk_at "call type:int") => `(tactic| ((with_reducible show wpAny _ _ (call (Value.type "int") [Value.float _ _]) _ _ _); refine int_fin (by assumption) ?_))
local macro_rules | `(tactic| walk_at "binaryOp Sub float int") => `(tactic| ((with_reducible show wpAny _ _ (binaryOp Operator.Sub (Value.float _ _) (Value.int _ _)) _ _ _); refine sub_fi_fits (by assumption) ?_))
local macro_rules | `(tactic| walk_at "call ref") => `(tactic| ((with_reducible show wpAny _ _ (call (Value.ref 42) _) _ _ _); refine' useS ?k1 (c_hsv ?k3 ?k4 ?k1 ?k6 _ _ _ _ _ _ ?k7 ?k8) ?_; (case k1 => assumption); (case k3 => assumption); (case k4 => assumption); (case k6 => (dsimp only [Ar, Around.deeper]; omega)); (case k7 => assumption); (case k8 => assumption); intro v' h' tk' st' P'; (have X' := Frag.In.keeps (by assumption) st'); obtain ⟨l', t1', t2', t3', P', hl'⟩ := P'; subst P'))
local macro_rules | `(tactic| walk_at "call ref") => `(tactic| ((with_reducible show wpAny _ _ (call (Value.ref 28) _) _ _ _); refine' useS ?k1 (c_hls ?k3 ?k4 ?k1 ?k6 _ _ _ _ _ _) ?_; (case k1 => assumption); (case k3 => assumption); (case k4 => assumption); (case k6 => (dsimp only [Ar, Around.deeper]; omega)); intro v' h' tk' st' P'; (have X' := Frag.In.keeps (by assumption) st'); obtain ⟨l', t1', t2', t3', P', hl'⟩ := P'; subst P'))
local macro_rules | `(tactic| walk_at "call ref") => `(tactic| ((with_reducible show wpAny _ _ (call (Value.ref 49) _) _ _ _); refine' useS ?k1 (c_sign ?k3 ?k4 ?k1 ?k6 _ _ _ _ _ _ _ ?k7 ?k8 ?k9 ?k10) ?_; (case k1 => assumption); (case k3 => assumption); (case k4 => assumption); (case k6 => (dsimp only [Ar, Around.deeper]; omega)); (case k7 => assumption); (case k8 => assumption); (case k9 => assumption); (case k10 => assumption); intro v' h' tk' st' P'; (have X' := Frag.In.keeps (by assumption) st'); obtain ⟨t', P'⟩ := P'; subst P'))
variable {w : World} {mean : ExcName → Option Value} {mg mb : Str → Option Value} {base : Heap} {dp un : Nat} {fr : Option (List Env)} {gd : Option (List Code)} {s : Shared}
theorem c_walk (X₀ : (hd.heap_39 w.params).In base) (T₀ : Top hd.view_39 Lv mean mg mb base) (st : base.StaysIn s.heap) (hA : dp + 4 < recursionLimit) (hu : un + 40 < cLine)
   (ring start step : Nat) (t1 t2 t3 : Tok) (hr : ring < 4) (hs : start < 16) (hp : step < 16) :
   wpAny (model Pr w) (Ar dp un fr gd) (call (.ref 54) [.int ring t1, .int start t2, .int step t3]) (Post s fun v h' => ∃ t, v = .str (Str.mk ((List.range 40).map fun h => W ring ((start + step * h) % 16)).toArray) t) (fun _ _ => False) s := by
  have X := X₀.keeps st
  have T := T₀.keeps st
  clear X₀ T₀ st
  refine' enterC [(Str.ofString "ring", .int ring t1), (Str.ofString "start", .int start t2), (Str.ofString "step", .int step t3)] ?k1 ?k2 ?k3 ?k6 ?k7 ?k8 ?k9 ?kB ?c5 ?_ ?c2 ?c3 ?c4; (case k1 => k_asm); (case k2 => first | assumption | exact fun _ _ e => e); (case k3 => exact Top.nolimit (by assumption)); (case k6 => k_is); (case k7 => k_is); (case k8 => (dsimp only [Ar]; omega)); (case k9 => exact BindsTo.of_eq rfl); (case c5 => decide); (case kB => exact rfl); (case c2 => exact rfl); (case c3 => exact rfl); (case c4 => exact rfl); k_whole; intro h₁ tk cells F N Y; k_cells Y; (try k_unmd); (try dsimp only); k_fold
  walk_at "my go"
  all_goals (refine comp_range (fun _ => true) (fun i y => ∃ t, y = .str (Str.mk #[W ring ((start + step * i) % 16)]) t) rfl (by rfl) (by decide) rfl (by decide) (by decide) (by intro _; rfl) ?_)
  walk_at "my go"
  all_goals refine CR.all 40 (by assumption) (by decide) (by decide) (by decide) ?_ ?_
  iterate 4
    · rename Fr _ _ _ _ => F
      rename News _ _ _ _ => N
      rename IsRange _ _ _ _ _ _ _ _ => R
      intro C i tv s₃ m₃ cenv hE hi hm hx st₃
      dsimp only at st₃
      have fk := Fr.keep F
      have X₃ := X.keeps (stays_trans fk st₃)
      have T₃ := T.keeps (stays_trans fk st₃)
      have S1 : Sees cenv s₃.heap (Str.ofString "start") (.int start t2) := by rw [hE]; exact cellSees N st₃ rfl rfl rfl (by k_mem) (by assumption)
      have S2 : Sees cenv s₃.heap (Str.ofString "step") (.int step t3) := by rw [hE]; exact cellSees N st₃ rfl rfl rfl (by k_mem) (by assumption)
      have S3 : ∃ t, Sees cenv s₃.heap (Str.ofString "share") (.float (ringV ring).1 t) := by
        have e : ring = 0 ∨ ring = 1 ∨ ring = 2 ∨ ring = 3 := by omega
        rw [hE]
        rcases e with e | e | e | e <;> first | (exfalso; omega) | (subst e; exact ⟨_, cellSees N st₃ rfl rfl rfl (by k_mem) (by assumption)⟩)
      have S4 : ∃ t, Sees cenv s₃.heap (Str.ofString "level") (.float (ringV ring).2 t) := by
        have e : ring = 0 ∨ ring = 1 ∨ ring = 2 ∨ ring = 3 := by omega
        rw [hE]
        rcases e with e | e | e | e <;> first | (exfalso; omega) | (subst e; exact ⟨_, cellSees N st₃ rfl rfl rfl (by k_mem) (by assumption)⟩)
      obtain ⟨ts, S3⟩ := S3
      obtain ⟨tl, S4⟩ := S4
      have S5 : Sees cenv s₃.heap (Str.ofString "hour") (.int i tv) := by rw [hE]; exact .loc m₃ rfl rfl hm hx
      have S6 : Sees cenv s₃.heap (Str.ofString "_law_sign") (.ref 49) := by rw [hE]; exact globSees X (T.keeps (stays_refl _)) (stays_trans fk st₃) rfl rfl rfl (by k_is)
      have S7 : Sees cenv s₃.heap (Str.ofString "hsv_to_rgb") (.ref 42) := by rw [hE]; exact globSees X (T.keeps (stays_refl _)) (stays_trans fk st₃) rfl rfl rfl (by k_is)
      have hprod : step * i ≤ 585 := Nat.le_trans (Nat.mul_le_mul (by omega : step ≤ 15) (by omega : i ≤ 39)) (by decide)
      have hn : start + step * i ≤ 600 := by omega
      have e1 : ((start : Int) + (step : Int) * (i : Int)) = ((start + step * i : Nat) : Int) := by push_cast; rfl
      have hbig : ((start : Int) + (step : Int) * (i : Int)).natAbs < 2 ^ 1023 := by rw [e1]; exact Nat.lt_of_lt_of_le (by omega : _ < 1000) (by decide)
      obtain ⟨f1, f2, -⟩ := h6_facts hn
      have hf : Float64.isFinite (Float64.mul (Float64.div (Float64.ofInt ((start : Int) + (step : Int) * (i : Int))) 4625196817309499392) 4618441417868443648) = true := by rw [e1]; exact f1
      have hi6 : (toI (Float64.mul (Float64.div (Float64.ofInt ((start : Int) + (step : Int) * (i : Int))) 4625196817309499392) 4618441417868443648)).natAbs < 2 ^ 1023 := by rw [e1]; show (toI (h6 _)).natAbs < _; rw [f2]; exact Nat.lt_of_lt_of_le (by omega : _ < 1000) (by decide)
      obtain ⟨c1, c2⟩ := hsv_is hr hn
      unfold colOk hsvAt hueF at c1
      rw [← e1] at c1
      simp only [Bool.and_eq_true] at c1
      obtain ⟨⟨c3, c4⟩, c5⟩ := c1
      have st : s₃.heap.StaysIn s₃.heap := stays_refl _
      walk_at "my go"
      refine ⟨⟨_, _, rfl, by assumption⟩, ?_⟩
      rw [← c2, ← e1]
      exact ⟨_, rfl⟩
    · rename Fr _ _ _ _ => F
      rename News _ _ _ _ => N
      intro D h' tk' ys hD hl hsz hy hk
      have F' := F.keeps hk
      have N' := N.grown hk
      walk_at "my go"
      refine join_listW hl.isList (strs_of hsz hy) (by decide) (by rw [ones_weight]; simp) ?_
      intro t' k'
      walk_at "my go"
      refine Post.intro (by assumption) ⟨t', ?_⟩
      rw [join_ones]

end
section
local macro_rules | `(tactic| walk_at "binaryOp Mod float float") => `(tactic| (refine AutoFloatOps.mod_1 (by decide +kernel) ?_; dsimp only [Made.post]))
local macro_rules | `(tactic| walk_at "my bar") => `(tactic| (
  (fail_if_success (with_reducible show wpAny _ _ (pyIter _) _ _ _)); (fail_if_success (with_reducible show wpAny _ _ (exec (Stmt.For _ _ _ _ _) _) _ _ _)); (fail_if_success (with_reducible show wpAny _ _ (eval (Expr.ListComp _ _ _ _) _) _ _ _)); (fail_if_success (with_reducible show wpAny _ _ (exec (Stmt.Assign _ (Expr.ListComp _ _ _ _) _) _) _ _ _))))
local macro_rules | `(tactic| walk_at "my go") => `(tactic| repeat' (first | (k_unfold; (try dsimp only)) | (walk_at "my bar"; walk1) | (walk_at "my bar"; dsimp only; walk_at "my bar"; walk1)))
local macro_rules | `(tactic| walk_at "my for") => `(tactic| (refine' forV ?k1 ?k2 ?k3 ?k4 ?_; (case k1 => k_asm); (case k2 => rfl); (case k3 => rfl); (case k4 => (intro _; rfl)); (try k_fold)))
local macro_rules | `(tactic| walk_at "eval Name") => `(tactic| (refine' Sees.at ?k1 ?k2 ?_ ?k3; (case k1 => assumption); (case k2 => assumption); (case k3 => decide)))
local macro_rules | `(tactic| walk_at "binaryOp Div int float") => `(tactic| (refine AutoFloatOps.truediv_if_2 (Float64.ofInt_fits (by assumption)) (by decide +kernel) ?_; dsimp only [Made.post]))
local macro_rules | `(tactic| walk_at "call ref") => `(tactic| ((with_reducible show wpAny _ _ (call (Value.ref 35) _) _ _ _); refine' useK ?k1 ?k2 (c_v ?k3 ?k4 ?k5 ?k6 _ _ _ _ _ _) ?_; (case k1 => k_asm); (case k2 => k_asm); (case k3 => k_asm); (case k4 => assumption); (case k5 => exact Fr.keep (by k_asm)); (case k6 => (dsimp only [Ar, Around.deeper]; omega)); intro v' h' tk' K' F' N' P'; obtain ⟨t', P'⟩ := P'; subst P'; (try k_sweep)))
local macro_rules | `(tactic| walk_at "call type:int") => `(tactic| ((with_reducible show wpAny _ _ (call (Value.type "int") [Value.float _ _]) _ _ _); refine int_fin (by assumption) ?_))
local macro_rules | `(tactic| walk_at "binaryOp Sub float int") => `(tactic| ((with_reducible show wpAny _ _ (binaryOp Operator.Sub (Value.float _ _) (Value.int _ _)) _ _ _); refine sub_fi_fits (by assumption) ?_))
local macro_rules | `(tactic| walk_at "call ref") => `(tactic| ((with_reducible show wpAny _ _ (call (Value.ref 42) _) _ _ _); refine' useS ?k1 (c_hsv ?k3 ?k4 ?k1 ?k6 _ _ _ _ _ _ ?k7 ?k8) ?_; (case k1 => assumption); (case k3 => assumption); (case k4 => assumption); (case k6 => (dsimp only [Ar, Around.deeper]; omega)); (case k7 => assumption); (case k8 => assumption); intro v' h' tk' st' P'; (have X' := Frag.In.keeps (by assumption) st'); obtain ⟨l', t1', t2', t3', P', hl'⟩ := P'; subst P'))
local macro_rules | `(tactic| walk_at "call ref") => `(tactic| ((with_reducible show wpAny _ _ (call (Value.ref 28) _) _ _ _); refine' useS ?k1 (c_hls ?k3 ?k4 ?k1 ?k6 _ _ _ _ _ _) ?_; (case k1 => assumption); (case k3 => assumption); (case k4 => assumption); (case k6 => (dsimp only [Ar, Around.deeper]; omega)); intro v' h' tk' st' P'; (have X' := Frag.In.keeps (by assumption) st'); obtain ⟨l', t1', t2', t3', P', hl'⟩ := P'; subst P'))
local macro_rules | `(tactic| walk_at "call ref") => `(tactic| ((with_reducible show wpAny _ _ (call (Value.ref 49) _) _ _ _); refine' useS ?k1 (c_sign ?k3 ?k4 ?k1 ?k6 _ _ _ _ _ _ _ ?k7 ?k8 ?k9 ?k10) ?_; (case k1 => assumption); (case k3 => assumption); (case k4 => assumption); (case k6 => (dsimp only [Ar, Around.deeper]; omega)); (case k7 => assumption); (case k8 => assumption); (case k9 => assumption); (case k10 => assumption); intro v' h' tk' st' P'; (have X' := Frag.In.keeps (by assumption) st'); obtain ⟨t', P'⟩ := P'; subst P'))
variable {w : World} {mean : ExcName → Option Value} {mg mb : Str → Option Value} {base : Heap} {dp un : Nat} {fr : Option (List Env)} {gd : Option (List Code)} {s : Shared}
/-- a list that was made since h -/
def NewList (h : Heap) (v : Value) (h' : Heap) (ys : Array Value) : Prop := ∃ l n, v = .ref l ∧ h.get? l = none ∧ h'.get? l = some (W.listOf ys n)
theorem none_of {h h' : Heap} {a : Addr} (k : h.StaysIn h') (e : h'.get? a = none) : h.get? a = none := by
  cases q : h.get? a with
  | none => rfl
  | some o => rw [k _ _ q] at e; cases e
theorem third_is : Float64.div 4607182418800017408 4613937818241073152 = 4599676419421066581 := of_decide_eq_true (by decide +kernel)
theorem c_wheel (X₀ : (hd.heap_39 w.params).In base) (T₀ : Top hd.view_39 Lv mean mg mb base) (st : base.StaysIn s.heap) (hA : dp + 4 < recursionLimit) (hu : un + 40 < cLine)
   (ring : Nat) (t1 : Tok) (hr : ring < 4) :
   wpAny (model Pr w) (Ar dp un fr gd) (call (.ref 59) [.int ring t1]) (Post s fun v h' => ∃ ys, NewList s.heap v h' ys ∧ StrsAre ys.toList ((List.range 16).map fun k => Str.mk #[W ring k])) (fun _ _ => False) s := by
  have X := X₀.keeps st
  have T := T₀.keeps st
  clear X₀ T₀ st
  refine' enterC [(Str.ofString "ring", .int ring t1)] ?k1 ?k2 ?k3 ?k6 ?k7 ?k8 ?k9 ?kB ?c5 ?_ ?c2 ?c3 ?c4; (case k1 => k_asm); (case k2 => first | assumption | exact fun _ _ e => e); (case k3 => exact Top.nolimit (by assumption)); (case k6 => k_is); (case k7 => k_is); (case k8 => (dsimp only [Ar]; omega)); (case k9 => exact BindsTo.of_eq rfl); (case c5 => decide); (case kB => exact rfl); (case c2 => exact rfl); (case c3 => exact rfl); (case c4 => exact rfl); k_whole; intro h₁ tk cells F N Y; k_cells Y; (try k_unmd); (try dsimp only); k_fold
  walk_at "my go"
  all_goals (try simp only [third_is] at *)
  all_goals (refine comp_range (fun _ => true) (fun i y => ∃ t, y = .str (Str.mk #[W ring i]) t) rfl (by rfl) (by decide) rfl (by decide) (by decide) (by intro _; rfl) ?_)
  walk_at "my go"
  all_goals refine CR.all 16 (by assumption) (by decide) (by decide) (by decide) ?_ ?_
  iterate 4
    · rename Fr _ _ _ _ => F
      rename News _ _ _ _ => N
      rename IsRange _ _ _ _ _ _ _ _ => R
      intro C i tv s₃ m₃ cenv hE hi hm hx st₃
      dsimp only at st₃
      have fk := Fr.keep F
      have X₃ := X.keeps (stays_trans fk st₃)
      have T₃ := T.keeps (stays_trans fk st₃)
      have S3 : ∃ t, Sees cenv s₃.heap (Str.ofString "light") (.float (ringL ring).1 t) := by
        have e : ring = 0 ∨ ring = 1 ∨ ring = 2 ∨ ring = 3 := by omega
        rw [hE]
        rcases e with e | e | e | e <;> first | (exfalso; omega) | (subst e; exact ⟨_, cellSees N st₃ rfl rfl rfl (by k_mem) (by assumption)⟩)
      have S4 : ∃ t, Sees cenv s₃.heap (Str.ofString "share") (.float (ringL ring).2 t) := by
        have e : ring = 0 ∨ ring = 1 ∨ ring = 2 ∨ ring = 3 := by omega
        rw [hE]
        rcases e with e | e | e | e <;> first | (exfalso; omega) | (subst e; exact ⟨_, cellSees N st₃ rfl rfl rfl (by k_mem) (by assumption)⟩)
      obtain ⟨ts, S3⟩ := S3
      obtain ⟨tl, S4⟩ := S4
      have S5 : Sees cenv s₃.heap (Str.ofString "hue") (.int i tv) := by rw [hE]; exact .loc m₃ rfl rfl hm hx
      have S6 : Sees cenv s₃.heap (Str.ofString "_law_sign") (.ref 49) := by rw [hE]; exact globSees X (T.keeps (stays_refl _)) (stays_trans fk st₃) rfl rfl rfl (by k_is)
      have S7 : Sees cenv s₃.heap (Str.ofString "hls_to_rgb") (.ref 28) := by rw [hE]; exact globSees X (T.keeps (stays_refl _)) (stays_trans fk st₃) rfl rfl rfl (by k_is)
      have hbig : ((i : Int)).natAbs < 2 ^ 1023 := Nat.lt_of_lt_of_le (by omega : _ < 1000) (by decide)
      obtain ⟨c1, c2⟩ := hls_is hr hi
      unfold colOk hlsAt hueF at c1
      simp only [Bool.and_eq_true] at c1
      obtain ⟨⟨c3, c4⟩, c5⟩ := c1
      have st : s₃.heap.StaysIn s₃.heap := stays_refl _
      walk_at "my go"
      refine ⟨⟨_, _, rfl, by assumption⟩, ?_⟩
      rw [← c2]
      exact ⟨_, rfl⟩
    · rename Fr _ _ _ _ => F
      rename News _ _ _ _ => N
      intro D h' tk' ys hD hl hsz hy hk
      have F' := F.keeps hk
      have N' := N.grown hk
      walk_at "my go"
      refine Post.intro (by assumption) ⟨ys, ?_, strs_of hsz hy⟩
      obtain ⟨n, e⟩ := hl
      exact ⟨D, n, rfl, none_of (Fr.keep F) hD, e⟩

end
section
local macro_rules | `(tactic| walk_at "binaryOp Mod float float") => `(tactic| (refine AutoFloatOps.mod_1 (by decide +kernel) ?_; dsimp only [Made.post]))
local macro_rules | `(tactic| walk_at "my bar") => `(tactic| (
  (fail_if_success (with_reducible show wpAny _ _ (pyIter _) _ _ _)); (fail_if_success (with_reducible show wpAny _ _ (exec (Stmt.For _ _ _ _ _) _) _ _ _)); (fail_if_success (with_reducible show wpAny _ _ (eval (Expr.ListComp _ _ _ _) _) _ _ _)); (fail_if_success (with_reducible show wpAny _ _ (exec (Stmt.Assign _ (Expr.ListComp _ _ _ _) _) _) _ _ _))))
local macro_rules | `(tactic| walk_at "my go") => `(tactic| repeat' (first | (k_unfold; (try dsimp only)) | (walk_at "my bar"; walk1) | (walk_at "my bar"; dsimp only; walk_at "my bar"; walk1)))
local macro_rules | `(tactic| walk_at "my for") => `(tactic| (refine' forV ?k1 ?k2 ?k3 ?k4 ?_; (case k1 => k_asm); (case k2 => rfl); (case k3 => rfl); (case k4 => (intro _; rfl)); (try k_fold)))
local macro_rules | `(tactic| walk_at "eval Name") => `(tactic| (refine' Sees.at ?k1 ?k2 ?_ ?k3; (case k1 => assumption); (case k2 => assumption); (case k3 => decide)))
local macro_rules | `(tactic| walk_at "binaryOp Div int float") => `(tactic| (refine AutoFloatOps.truediv_if_2 (Float64.ofInt_fits (by assumption)) (by decide +kernel) ?_; dsimp only [Made.post]))
local macro_rules | `(tactic| walk_at "call ref") => `(tactic| ((with_reducible show wpAny _ _ (call (Value.ref 35) _) _ _ _); refine' useK ?k1 ?k2 (c_v ?k3 ?k4 ?k5 ?k6 _ _ _ _ _ _) ?_; (case k1 => k_asm); (case k2 => k_asm); (case k3 => k_asm); (case k4 => assumption); (case k5 => exact Fr.keep (by k_asm)); (case k6 => (dsimp only [Ar, Around.deeper]; omega)); intro v' h' tk' K' F' N' P'; obtain ⟨t', P'⟩ := P'; subst P'; (try k_sweep)))
local macro_rules | `(tactic| walk_at "call type:int") => `(tactic| ((with_reducible show wpAny _ _ (call (Value.type "int") [Value.float _ _]) _ _ _); refine int_fin (by assumption) ?_))
local macro_rules | `(tactic| walk_at "binaryOp Sub float int") => `(tactic| ((with_reducible show wpAny _ _ (binaryOp Operator.Sub (Value.float _ _) (Value.int _ _)) _ _ _); refine sub_fi_fits (by assumption) ?_))
local macro_rules | `(tactic| walk_at "call ref") => `(tactic| ((with_reducible show wpAny _ _ (call (Value.ref 42) _) _ _ _); refine' useS ?k1 (c_hsv ?k3 ?k4 ?k1 ?k6 _ _ _ _ _ _ ?k7 ?k8) ?_; (case k1 => assumption); (case k3 => assumption); (case k4 => assumption); (case k6 => (dsimp only [Ar, Around.deeper]; omega)); (case k7 => assumption); (case k8 => assumption); intro v' h' tk' st' P'; (have X' := Frag.In.keeps (by assumption) st'); obtain ⟨l', t1', t2', t3', P', hl'⟩ := P'; subst P'))
local macro_rules | `(tactic| walk_at "call ref") => `(tactic| ((with_reducible show wpAny _ _ (call (Value.ref 28) _) _ _ _); refine' useS ?k1 (c_hls ?k3 ?k4 ?k1 ?k6 _ _ _ _ _ _) ?_; (case k1 => assumption); (case k3 => assumption); (case k4 => assumption); (case k6 => (dsimp only [Ar, Around.deeper]; omega)); intro v' h' tk' st' P'; (have X' := Frag.In.keeps (by assumption) st'); obtain ⟨l', t1', t2', t3', P', hl'⟩ := P'; subst P'))
local macro_rules | `(tactic| walk_at "call ref") => `(tactic| ((with_reducible show wpAny _ _ (call (Value.ref 49) _) _ _ _); refine' useS ?k1 (c_sign ?k3 ?k4 ?k1 ?k6 _ _ _ _ _ _ _ ?k7 ?k8 ?k9 ?k10) ?_; (case k1 => assumption); (case k3 => assumption); (case k4 => assumption); (case k6 => (dsimp only [Ar, Around.deeper]; omega)); (case k7 => assumption); (case k8 => assumption); (case k9 => assumption); (case k10 => assumption); intro v' h' tk' st' P'; (have X' := Frag.In.keeps (by assumption) st'); obtain ⟨t', P'⟩ := P'; subst P'))
variable {w : World} {mean : ExcName → Option Value} {mg mb : Str → Option Value} {base : Heap} {dp un : Nat} {fr : Option (List Env)} {gd : Option (List Code)} {s : Shared}
def re0 (re n : Int) : Int := re + (n.fdiv 4).fmod 8
def re1 (re n : Int) : Int := re0 re n + n.fmod 4
def reAt (ns : List Int) : Int := ns.foldl re1 0
def str1 (start step re n : Int) : Int × Int × Int :=
  ((if (n.fdiv 32).fmod 4 = 3 then n.fdiv 128 else start + step * re0 re n).fmod 16, (if (n.fdiv 4096).fmod 8 = 7 then step + 1 else step), n.fmod 4)
def strAt (start step : Int) (ns : List Int) (j : Nat) : Int × Int × Int := str1 start step (reAt (ns.take j)) (ns.getD j 0)
def tupObj (x : Int × Int × Int) (t1 t2 t3 : Tok) : Obj := { cls := .type "tuple", data := .seq #[.int x.1 t1, .int x.2.1 t2, .int x.2.2 t3] }
theorem re_bounds (ns : List Int) : 0 ≤ reAt ns ∧ reAt ns ≤ 10 * ns.length := by
  have key : ∀ (ns : List Int) (a : Int), 0 ≤ a → 0 ≤ ns.foldl re1 a ∧ ns.foldl re1 a ≤ a + 10 * ns.length := by
    intro ns
    induction ns with
    | nil => intro a h; simp [h]
    | cons n r ih =>
      intro a h
      have h1 : 0 ≤ (n.fdiv 4).fmod 8 ∧ (n.fdiv 4).fmod 8 < 8 := ⟨Int.fmod_nonneg_of_pos _ (by decide), Int.fmod_lt_of_pos _ (by decide)⟩
      have h2 : 0 ≤ n.fmod 4 ∧ n.fmod 4 < 4 := ⟨Int.fmod_nonneg_of_pos _ (by decide), Int.fmod_lt_of_pos _ (by decide)⟩
      have := ih (re1 a n) (by unfold re1 re0; omega)
      rw [List.foldl_cons, List.length_cons]
      unfold re1 re0 at this ⊢
      push_cast
      omega
  have := key ns 0 (by decide)
  unfold reAt
  omega
theorem reAt_succ {ns : List Int} {i : Nat} {nn rr : Int} (hi : i < ns.length) (hnn : ns[i] = nn) (hrr : reAt (ns.take i) = rr) : reAt (ns.take (i + 1)) = re1 rr nn := by
  have e : ns.take (i + 1) = ns.take i ++ [nn] := by rw [List.take_add_one, List.getElem?_eq_getElem hi, hnn]; rfl
  unfold reAt at hrr ⊢
  rw [e, List.foldl_append, hrr]
  rfl
theorem strAt_eq {ns : List Int} {i : Nat} {nn rr a b : Int} (hi : i < ns.length) (hnn : ns[i] = nn) (hrr : reAt (ns.take i) = rr) : strAt a b ns i = str1 a b rr nn := by
  unfold strAt
  rw [hrr, List.getD_eq_getElem?_getD, List.getElem?_eq_getElem hi, hnn]
  rfl
theorem stretch_end {h₀ h : Heap} {L : Addr} {a b : Addr × Obj} {tups own R : List (Addr × Obj)} (N : News h₀ L h (a :: b :: R)) (e : tups ++ own = R) : News h₀ L h ((b :: a :: tups) ++ own) := by
  subst e
  refine news_cong N fun p hp => ?_
  rcases List.mem_cons.mp hp with rfl | hp
  · exact .tail _ (.head _)
  · rcases List.mem_cons.mp hp with rfl | hp
    · exact .head _
    · exact .tail _ (.tail _ hp)
theorem tup_mem {D : Addr} {a b c : Int} {t1 t2 t3 : Tok} {x : Int × Int × Int} {tups : List (Addr × Obj)} (e : x = (a, b, c)) : ∃ u1 u2 u3, (D, tupObj x u1 u2 u3) ∈ (D, ({ cls := Value.type "tuple", data := Data.seq #[.int a t1, .int b t2, .int c t3] } : Obj)) :: tups :=
  ⟨t1, t2, t3, by subst e; exact .head _⟩
theorem news_head {h₀ h : Heap} {L a : Addr} {o : Obj} {rest : List (Addr × Obj)} {P : Prop} (_N : News h₀ L h ((a, o) :: rest)) (k : ∀ b, b = a → P) : P := k a rfl
theorem c_stretches (X₀ : (hd.heap_39 w.params).In base) (T₀ : Top hd.view_39 Lv mean mg mb base) (st : base.StaysIn s.heap) (hA : dp + 4 < recursionLimit) (hu : un + 40 < cLine)
   (l : Addr) (vs : List Value) (ns : List Int) (start step : Nat) (t2 t3 : Tok) (hl : s.heap.IsList l vs.toArray) (hi : IntsAre vs ns) (hs : start < 16) (hp : step < 16) (hn : ns.length ≤ 8) :
   wpAny (model Pr w) (Ar dp un fr gd) (call (.ref 66) [.ref l, .int start t2, .int step t3]) (Post s fun v h' => ∃ ys, NewList s.heap v h' ys ∧ ys.size = ns.length ∧ ∀ j, j < ns.length → ∃ a t1 t2 t3, ys[j]? = some (.ref a) ∧ s.heap.get? a = none ∧ h'.get? a = some (tupObj (strAt start step ns j) t1 t2 t3)) (fun _ _ => False) s := by
  have X := X₀.keeps st
  have T := T₀.keeps st
  clear X₀ T₀ st
  refine' enter [(Str.ofString "numbers", .ref l), (Str.ofString "start", .int start t2), (Str.ofString "step", .int step t3)] ?k1 ?k2 ?k3 ?k6 ?k7 ?k8 ?k9 ?kB ?_ ?c5 ?c2 ?c3 ?c4; (case k1 => k_asm); (case k2 => first | assumption | exact fun _ _ e => e); (case k3 => exact Top.nolimit (by assumption)); (case k6 => k_is); (case k7 => k_is); (case k8 => (dsimp only [Ar]; omega)); (case k9 => exact BindsTo.of_eq rfl); (case c5 => decide); (case kB => exact locs rfl); (case c2 => exact rfl); (case c3 => exact rfl); (case c4 => exact rfl); k_whole; intro h₁ F N; dsimp only [List.length, List.reverse, List.reverseAux]; k_fold
  walk_at "my go"
  rename News _ _ _ _ => N
  rename Fr _ _ _ _ => F
  refine news_head N ?_
  intro ls hls
  subst hls
  walk_at "my for"
  walk_at "my go"
  refine iter_lstG (fun i m news => ∃ ys n tups, news = (ls, W.listOf ys n) :: tups ∧ ys.size = i ∧ OwnOff tups [ls] ∧ (∀ j, j < i → ∃ a, ys[j]? = some (.ref a) ∧ ∃ t1 t2 t3, (a, tupObj (strAt start step ns j) t1 t2 t3) ∈ tups) ∧
      (∃ tr, m (Str.ofString "reached") = some (.int (reAt (ns.take i)) tr)) ∧ m (Str.ofString "stretches") = some (.ref ls) ∧ m (Str.ofString "start") = some (.int start t2) ∧ m (Str.ofString "step") = some (.int step t3)) rfl hl (by assumption) (by assumption) ?_ ?_ ?_ ?_
  · intro p hp
    rw [List.mem_singleton.mp hp]
    show Value.type "list" ≠ Value.type "list_iterator"
    decide
  · exact ⟨#[], 0, [], rfl, rfl, (fun p hp => nomatch hp), (fun j hj => absurd hj (Nat.not_lt_zero _)), ⟨_, rfl⟩, rfl, rfl, rfl⟩
  · intro i v m₁ news₁ h tk own hi' hv ho hc hj F N
    obtain ⟨ys, n, tups, rfl, hsz, hto, hj, ⟨tr, hm1⟩, hm2, hm3, hm4⟩ := hj
    have hi2 : i < ns.length := by simpa [hi.length] using hi'
    obtain ⟨tv, hv'⟩ := hi.get i ns[i] (by simp [hi2])
    have e : v = .int ns[i] tv := by
      have : vs[i]? = some v := by simpa using hv
      rw [hv'] at this
      exact (Option.some.inj this).symm
    subst e
    generalize hnn : ns[i] = nn at *
    obtain ⟨hb0, hb1⟩ := re_bounds (ns.take i)
    have hb2 : reAt (ns.take i) ≤ 80 := by rw [List.length_take] at hb1; omega
    have h8 : 0 ≤ (nn.fdiv 4).fmod 8 ∧ (nn.fdiv 4).fmod 8 < 8 := ⟨Int.fmod_nonneg_of_pos _ (by decide), Int.fmod_lt_of_pos _ (by decide)⟩
    replace F : Fr s.heap s.heap.objs.size h _ := frAs (frAs (frAs (frAs F (Str.ofString "reached") hm1) (Str.ofString "stretches") hm2) (Str.ofString "start") hm3) (Str.ofString "step") hm4
    generalize hrr : reAt (ns.take i) = rr at *
    have hR : OwnOff (tups ++ own) [ls] := by
      intro p hp b hb
      rcases List.mem_append.mp hp with h1 | h1
      · exact hto p h1 b hb
      · rw [List.mem_singleton.mp hb]
        exact ho p h1 ls (List.mem_cons_self ..)
    replace N : News s.heap s.heap.objs.size h ((ls, W.listOf ys n) :: (tups ++ own)) := N
    generalize hRR : tups ++ own = R at *
    have hsz' : ys.size ≤ sizeLine := by rw [hsz, sizeLine_eq]; omega
    clear hv hv' hi' hm1 hm2 hm3 hm4 hb1
    walk_at "my go"
    all_goals
      refine GPost.next (_ :: _ :: tups) (by assumption) (stretch_end (by assumption) hRR) ?_ ⟨_, _, _, rfl, ?_, ?_, ?_, ?_, rfl, rfl, rfl⟩
      · intro p hp
        rcases List.mem_cons.mp hp with rfl | hp
        · show Value.type "list" ≠ Value.type "list_iterator"
          decide
        · rcases List.mem_cons.mp hp with rfl | hp
          · show Value.type "tuple" ≠ Value.type "list_iterator"
            decide
          · exact hc p (.tail _ hp)
      · rw [Array.size_push, hsz]
      · intro p hp b hb
        rw [List.mem_singleton.mp hb]
        rcases List.mem_cons.mp hp with rfl | hp
        · refine neN ?_
          dsimp only
          omega
        · exact hto p hp ls (.head _)
      · intro j hj'
        by_cases q : j < i
        · obtain ⟨a, h1, u1, u2, u3, h2⟩ := hj j q
          exact ⟨a, by rw [Array.getElem?_push_lt (by omega)]; rw [← h1]; exact (Array.getElem?_eq_getElem (by omega)).symm, u1, u2, u3, .tail _ h2⟩
        · have e : j = i := by omega
          subst e
          refine ⟨_, by rw [← hsz]; exact Array.getElem?_push_size, ?_⟩
          rw [strAt_eq hi2 hnn hrr]
          refine tup_mem ?_
          unfold str1 re0
          simp only [*, if_true, if_false]
      · rw [reAt_succ hi2 hnn hrr]
        exact ⟨_, rfl⟩
  · intro m₁ news₁ h tk hj F N
    obtain ⟨ys, n, tups, rfl, hsz, hto, hj, ⟨tr, hm1⟩, hm2, hm3, hm4⟩ := hj
    replace F : Fr s.heap s.heap.objs.size h _ := frAs F (Str.ofString "stretches") hm2
    have hsz2 : vs.toArray.size = ns.length := by simp [hi.length]
    rw [hsz2] at hsz hj
    walk_at "my go"
    refine Post.intro (by assumption) ⟨ys, ⟨ls, n, rfl, (N _ (.head _)).2.2, (N _ (.head _)).1⟩, hsz, fun j hj' => ?_⟩
    obtain ⟨a, h1, u1, u2, u3, h2⟩ := hj j hj'
    exact ⟨a, u1, u2, u3, h1, (N _ (.tail _ h2)).2.2, (N _ (.tail _ h2)).1⟩

end
section
local macro_rules | `(tactic| walk_at "binaryOp Mod float float") => `(tactic| (refine AutoFloatOps.mod_1 (by decide +kernel) ?_; dsimp only [Made.post]))
local macro_rules | `(tactic| walk_at "my bar") => `(tactic| (
  (fail_if_success (with_reducible show wpAny _ _ (pyIter _) _ _ _)); (fail_if_success (with_reducible show wpAny _ _ (exec (Stmt.For _ _ _ _ _) _) _ _ _)); (fail_if_success (with_reducible show wpAny _ _ (eval (Expr.ListComp _ _ _ _) _) _ _ _)); (fail_if_success (with_reducible show wpAny _ _ (exec (Stmt.Assign _ (Expr.ListComp _ _ _ _) _) _) _ _ _))))
local macro_rules | `(tactic| walk_at "my go") => `(tactic| repeat' (first | (k_unfold; (try dsimp only)) | (walk_at "my bar"; walk1) | (walk_at "my bar"; dsimp only; walk_at "my bar"; walk1)))
local macro_rules | `(tactic| walk_at "my for") => `(tactic| (refine' forV ?k1 ?k2 ?k3 ?k4 ?_; (case k1 => k_asm); (case k2 => rfl); (case k3 => rfl); (case k4 => (intro _; rfl)); (try k_fold)))
local macro_rules | `(tactic| walk_at "eval Name") => `(tactic| (refine' Sees.at ?k1 ?k2 ?_ ?k3; (case k1 => assumption); (case k2 => assumption); (case k3 => decide)))
local macro_rules | `(tactic| walk_at "binaryOp Div int float") => `(tactic| (refine AutoFloatOps.truediv_if_2 (Float64.ofInt_fits (by assumption)) (by decide +kernel) ?_; dsimp only [Made.post]))
local macro_rules | `(tactic| walk_at "call ref") => `(tactic| ((with_reducible show wpAny _ _ (call (Value.ref 35) _) _ _ _); refine' useK ?k1 ?k2 (c_v ?k3 ?k4 ?k5 ?k6 _ _ _ _ _ _) ?_; (case k1 => k_asm); (case k2 => k_asm); (case k3 => k_asm); (case k4 => assumption); (case k5 => exact Fr.keep (by k_asm)); (case k6 => (dsimp only [Ar, Around.deeper]; omega)); intro v' h' tk' K' F' N' P'; obtain ⟨t', P'⟩ := P'; subst P'; (try k_sweep)))
local macro_rules | `(tactic| walk_at "call type:int") => `(tactic| ((with_reducible show wpAny _ _ (call (Value.type "int") [Value.float _ _]) _ _ _); refine int_fin (by assumption) ?_))
local macro_rules | `(tactic| walk_at "binaryOp Sub float int") => `(tactic| ((with_reducible show wpAny _ _ (binaryOp Operator.Sub (Value.float _ _) (Value.int _ _)) _ _ _); refine sub_fi_fits (by assumption) ?_))
local macro_rules | `(tactic| walk_at "call ref") => `(tactic| ((with_reducible show wpAny _ _ (call (Value.ref 42) _) _ _ _); refine' useS ?k1 (c_hsv ?k3 ?k4 ?k1 ?k6 _ _ _ _ _ _ ?k7 ?k8) ?_; (case k1 => assumption); (case k3 => assumption); (case k4 => assumption); (case k6 => (dsimp only [Ar, Around.deeper]; omega)); (case k7 => assumption); (case k8 => assumption); intro v' h' tk' st' P'; (have X' := Frag.In.keeps (by assumption) st'); obtain ⟨l', t1', t2', t3', P', hl'⟩ := P'; subst P'))
local macro_rules | `(tactic| walk_at "call ref") => `(tactic| ((with_reducible show wpAny _ _ (call (Value.ref 28) _) _ _ _); refine' useS ?k1 (c_hls ?k3 ?k4 ?k1 ?k6 _ _ _ _ _ _) ?_; (case k1 => assumption); (case k3 => assumption); (case k4 => assumption); (case k6 => (dsimp only [Ar, Around.deeper]; omega)); intro v' h' tk' st' P'; (have X' := Frag.In.keeps (by assumption) st'); obtain ⟨l', t1', t2', t3', P', hl'⟩ := P'; subst P'))
local macro_rules | `(tactic| walk_at "call ref") => `(tactic| ((with_reducible show wpAny _ _ (call (Value.ref 49) _) _ _ _); refine' useS ?k1 (c_sign ?k3 ?k4 ?k1 ?k6 _ _ _ _ _ _ _ ?k7 ?k8 ?k9 ?k10) ?_; (case k1 => assumption); (case k3 => assumption); (case k4 => assumption); (case k6 => (dsimp only [Ar, Around.deeper]; omega)); (case k7 => assumption); (case k8 => assumption); (case k9 => assumption); (case k10 => assumption); intro v' h' tk' st' P'; (have X' := Frag.In.keeps (by assumption) st'); obtain ⟨t', P'⟩ := P'; subst P'))
def PostB (s : Shared) (b : Bool) (ok : Bool) (s' : Shared) : Prop := Keeps s s' ∧ ok = b
theorem one_test {M : Model} {A : Around} {s : Shared} {E : Value → Shared → Prop} {c : Expr} {cenv : Env} {b : Bool} (h : wpAny M A (isTrue c cenv (eval c cenv)) (PostB s b) (fun _ _ => False) s) :
    wpAny M A (forIn [c] true fun c r => if r = true then do let ok ← isTrue c cenv (eval c cenv); pure (ForInStep.yield ok) else pure (ForInStep.yield r)) (fun ok s₄ => ok = b ∧ Keeps s s₄) E s := by
  rw [List.forIn_cons]
  simp only [if_true]
  refine wpAny_bind (wpAny_bind (wpAny_mono h (fun ok s' p => ?_) fun _ _ q => q.elim))
  refine wpAny_pure ?_
  dsimp only
  rw [List.forIn_nil]
  exact wpAny_pure ⟨p.2, p.1⟩
theorem CR.filter {prog : Program} {w : World} {A : Around} {env : Env} {elt c : Expr} {x : Str} {scope : Scope} {cl : List (Str × Addr)} {pz : Nat → Bool} {G : Nat → Value → Prop} {Q : Value → Shared → Prop} {s₁ : Shared} {r : Addr} {b : Int} {t u v : Tok} (n : Nat)
    (hr : IsRange s₁.heap r 0 b 1 t u v) (hsm : Builtin.Range.small 0 b 1 = true) (hn : Builtin.Range.rangeSize 0 b 1 = (n : Int)) (hsz : n ≤ sizeLine)
    (htest : ∀ C i tv s₃ m₃ cenv, cenv = compEnvC scope cl C env → i < n → s₃.heap.Ns C m₃ → m₃ x = some (.int (i : Int) tv) → s₁.heap.StaysIn s₃.heap →
        wpAny (model prog w) A (isTrue c cenv (eval c cenv)) (PostB s₃ (pz i)) (fun _ _ => False) s₃)
    (helt : ∀ C i tv s₃ m₃ cenv, cenv = compEnvC scope cl C env → i < n → s₃.heap.Ns C m₃ → m₃ x = some (.int (i : Int) tv) → s₁.heap.StaysIn s₃.heap →
        wpAny (model prog w) A (eval elt cenv) (Post s₃ fun y _ => G i y) (fun _ _ => False) s₃)
    (hQ : ∀ D h' tk (ys : Array Value), s₁.heap.get? D = none → h'.PlainList D ys → Paired G ((List.range n).filter pz) ys.toList → s₁.heap.StaysIn h' → Q (.ref D) { s₁ with heap := h', toks := tk }) :
    CR prog w A env elt x [c] scope cl pz G Q (.ref r) s₁ :=
  ⟨r, b, t, u, v, n, rfl, hr, hsm, hn, hsz, fun C i tv s₃ m₃ E' hi hm hx k => one_test (htest C i tv s₃ m₃ _ rfl hi hm hx k), fun C i tv s₃ m₃ E' hi _ hm hx k => wpAny_mono (helt C i tv s₃ m₃ _ rfl hi hm hx k) (fun y s₄ p => ⟨p.2, p.1⟩) fun _ _ q => q.elim, hQ⟩

end
section
local macro_rules | `(tactic| walk_at "binaryOp Mod float float") => `(tactic| (refine AutoFloatOps.mod_1 (by decide +kernel) ?_; dsimp only [Made.post]))
local macro_rules | `(tactic| walk_at "my bar") => `(tactic| (
  (fail_if_success (with_reducible show wpAny _ _ (pyIter _) _ _ _)); (fail_if_success (with_reducible show wpAny _ _ (exec (Stmt.For _ _ _ _ _) _) _ _ _)); (fail_if_success (with_reducible show wpAny _ _ (eval (Expr.ListComp _ _ _ _) _) _ _ _)); (fail_if_success (with_reducible show wpAny _ _ (exec (Stmt.Assign _ (Expr.ListComp _ _ _ _) _) _) _ _ _))))
local macro_rules | `(tactic| walk_at "my go") => `(tactic| repeat' (first | (k_unfold; (try dsimp only)) | (walk_at "my bar"; walk1) | (walk_at "my bar"; dsimp only; walk_at "my bar"; walk1)))
local macro_rules | `(tactic| walk_at "my for") => `(tactic| (refine' forV ?k1 ?k2 ?k3 ?k4 ?_; (case k1 => k_asm); (case k2 => rfl); (case k3 => rfl); (case k4 => (intro _; rfl)); (try k_fold)))
local macro_rules | `(tactic| walk_at "eval Name") => `(tactic| (refine' Sees.at ?k1 ?k2 ?_ ?k3; (case k1 => assumption); (case k2 => assumption); (case k3 => decide)))
local macro_rules | `(tactic| walk_at "binaryOp Div int float") => `(tactic| (refine AutoFloatOps.truediv_if_2 (Float64.ofInt_fits (by assumption)) (by decide +kernel) ?_; dsimp only [Made.post]))
local macro_rules | `(tactic| walk_at "call ref") => `(tactic| ((with_reducible show wpAny _ _ (call (Value.ref 35) _) _ _ _); refine' useK ?k1 ?k2 (c_v ?k3 ?k4 ?k5 ?k6 _ _ _ _ _ _) ?_; (case k1 => k_asm); (case k2 => k_asm); (case k3 => k_asm); (case k4 => assumption); (case k5 => exact Fr.keep (by k_asm)); (case k6 => (dsimp only [Ar, Around.deeper]; omega)); intro v' h' tk' K' F' N' P'; obtain ⟨t', P'⟩ := P'; subst P'; (try k_sweep)))
local macro_rules | `(tactic| walk_at "call type:int") => `(tactic| ((with_reducible show wpAny _ _ (call (Value.type "int") [Value.float _ _]) _ _ _); refine int_fin (by assumption) ?_))
local macro_rules | `(tactic| walk_at "binaryOp Sub float int") => `(tactic| ((with_reducible show wpAny _ _ (binaryOp Operator.Sub (Value.float _ _) (Value.int _ _)) _ _ _); refine sub_fi_fits (by assumption) ?_))
local macro_rules | `(tactic| walk_at "call ref") => `(tactic| ((with_reducible show wpAny _ _ (call (Value.ref 42) _) _ _ _); refine' useS ?k1 (c_hsv ?k3 ?k4 ?k1 ?k6 _ _ _ _ _ _ ?k7 ?k8) ?_; (case k1 => assumption); (case k3 => assumption); (case k4 => assumption); (case k6 => (dsimp only [Ar, Around.deeper]; omega)); (case k7 => assumption); (case k8 => assumption); intro v' h' tk' st' P'; (have X' := Frag.In.keeps (by assumption) st'); obtain ⟨l', t1', t2', t3', P', hl'⟩ := P'; subst P'))
local macro_rules | `(tactic| walk_at "call ref") => `(tactic| ((with_reducible show wpAny _ _ (call (Value.ref 28) _) _ _ _); refine' useS ?k1 (c_hls ?k3 ?k4 ?k1 ?k6 _ _ _ _ _ _) ?_; (case k1 => assumption); (case k3 => assumption); (case k4 => assumption); (case k6 => (dsimp only [Ar, Around.deeper]; omega)); intro v' h' tk' st' P'; (have X' := Frag.In.keeps (by assumption) st'); obtain ⟨l', t1', t2', t3', P', hl'⟩ := P'; subst P'))
local macro_rules | `(tactic| walk_at "call ref") => `(tactic| ((with_reducible show wpAny _ _ (call (Value.ref 49) _) _ _ _); refine' useS ?k1 (c_sign ?k3 ?k4 ?k1 ?k6 _ _ _ _ _ _ _ ?k7 ?k8 ?k9 ?k10) ?_; (case k1 => assumption); (case k3 => assumption); (case k4 => assumption); (case k6 => (dsimp only [Ar, Around.deeper]; omega)); (case k7 => assumption); (case k8 => assumption); (case k9 => assumption); (case k10 => assumption); intro v' h' tk' st' P'; (have X' := Frag.In.keeps (by assumption) st'); obtain ⟨t', P'⟩ := P'; subst P'))
variable {w : World} {mean : ExcName → Option Value} {mg mb : Str → Option Value} {base : Heap} {dp un : Nat} {fr : Option (List Env)} {gd : Option (List Code)} {s : Shared}
def hourOk (start step : Nat) (hue : Int) (h : Nat) : Bool := decide (((start : Int) + (step : Int) * (h : Int) - hue).fmod 16 = 0)
def hoursF (start step : Nat) (x : Int × Int × Int) : List Nat := if 1 < x.2.2 ∧ 0 < (x.2.1 - (step : Int)).fmod 16 then [] else (List.range 16).filter (hourOk start step x.1)
theorem ints_paired : ∀ {l : List Nat} {ys : List Value}, Paired (fun (i : Nat) y => ∃ t, y = Value.int (i : Int) t) l ys → IntsAre ys (l.map fun (n : Nat) => (n : Int))
  | _, _, .nil => .nil
  | _, _, .cons ⟨t, e⟩ r => by subst e; exact .cons _ t (ints_paired r)
theorem c_hours (X₀ : (hd.heap_39 w.params).In base) (T₀ : Top hd.view_39 Lv mean mg mb base) (st : base.StaysIn s.heap) (hA : dp + 4 < recursionLimit) (hu : un + 40 < cLine)
   (l : Addr) (hue stride size : Int) (t4 t5 t6 : Tok) (start step : Nat) (t2 t3 : Tok) (hl : IsTup s.heap l #[.int hue t4, .int stride t5, .int size t6]) (hs : start < 16) (hp : step < 16) :
   wpAny (model Pr w) (Ar dp un fr gd) (call (.ref 71) [.ref l, .int start t2, .int step t3]) (Post s fun v h' => ∃ ys, NewList s.heap v h' ys ∧ IntsAre ys.toList ((hoursF start step (hue, stride, size)).map fun (n : Nat) => (n : Int))) (fun _ _ => False) s := by
  have X := X₀.keeps st
  have T := T₀.keeps st
  clear X₀ T₀ st
  refine' enterC [(Str.ofString "stretch", .ref l), (Str.ofString "start", .int start t2), (Str.ofString "step", .int step t3)] ?k1 ?k2 ?k3 ?k6 ?k7 ?k8 ?k9 ?kB ?c5 ?_ ?c2 ?c3 ?c4; (case k1 => k_asm); (case k2 => first | assumption | exact fun _ _ e => e); (case k3 => exact Top.nolimit (by assumption)); (case k6 => k_is); (case k7 => k_is); (case k8 => (dsimp only [Ar]; omega)); (case k9 => exact BindsTo.of_eq rfl); (case c5 => decide); (case kB => exact rfl); (case c2 => exact rfl); (case c3 => exact rfl); (case c4 => exact rfl); k_whole; intro h₁ tk cells F N Y; k_cells Y; (try k_unmd); (try dsimp only); k_fold
  have hl₁ := hl.keeps (Fr.keep F)
  walk_at "my go"
  · rename News _ _ _ _ => N
    refine Post.intro (by assumption) ⟨#[], ⟨_, _, rfl, (N _ (.head _)).2.2, (N _ (.head _)).1⟩, ?_⟩
    unfold hoursF
    rw [if_pos ⟨by assumption, by assumption⟩]
    exact .nil
  all_goals (refine comp_range (hourOk start step hue) (fun i y => ∃ t, y = .int (i : Int) t) rfl (by rfl) (by decide) rfl (by decide) (by decide) (by intro _; rfl) ?_)
  walk_at "my go"
  all_goals refine CR.filter 16 (by assumption) (by decide) (by decide) (by decide) ?_ ?_ ?_
  iterate 2
    · rename Fr _ _ _ _ => F
      rename News _ _ _ _ => N
      rename IsRange _ _ _ _ _ _ _ _ => R
      intro C i tv s₃ m₃ cenv hE hi hm hx st₃
      dsimp only at st₃
      have fk := Fr.keep F
      have X₃ := X.keeps (stays_trans fk st₃)
      have T₃ := T.keeps (stays_trans fk st₃)
      have S1 : Sees cenv s₃.heap (Str.ofString "start") (.int start t2) := by rw [hE]; exact cellSees N st₃ rfl rfl rfl (by k_mem) (by assumption)
      have S2 : Sees cenv s₃.heap (Str.ofString "step") (.int step t3) := by rw [hE]; exact cellSees N st₃ rfl rfl rfl (by k_mem) (by assumption)
      have S3 : Sees cenv s₃.heap (Str.ofString "hue") (.int hue t4) := by rw [hE]; exact cellSees N st₃ rfl rfl rfl (by k_mem) (by assumption)
      have S5 : Sees cenv s₃.heap (Str.ofString "hour") (.int i tv) := by rw [hE]; exact .loc m₃ rfl rfl hm hx
      have st : s₃.heap.StaysIn s₃.heap := stays_refl _
      walk_at "my go"
      refine ⟨⟨_, _, rfl, stays_refl _⟩, ?_⟩
      unfold hourOk
      rw [Bool.beq_eq_decide_eq]
    · intro C i tv s₃ m₃ cenv hE hi hm hx st₃
      have S5 : Sees cenv s₃.heap (Str.ofString "hour") (.int i tv) := by rw [hE]; exact .loc m₃ rfl rfl hm hx
      have st : s₃.heap.StaysIn s₃.heap := stays_refl _
      walk_at "my go"
      exact ⟨⟨_, _, rfl, stays_refl _⟩, _, rfl⟩
    · rename Fr _ _ _ _ => F
      rename News _ _ _ _ => N
      intro D h' tk' ys hD hl hy hk
      have F' := F.keeps hk
      have N' := N.grown hk
      walk_at "my go"
      refine Post.intro (by assumption) ⟨ys, ?_, ?_⟩
      · obtain ⟨n, e⟩ := hl
        exact ⟨D, n, rfl, none_of (Fr.keep F) hD, e⟩
      · unfold hoursF
        rw [if_neg (by intro q; first | exact absurd q.1 (by assumption) | exact absurd q.2 (by assumption))]
        exact ints_paired hy

end
section
local macro_rules | `(tactic| walk_at "binaryOp Mod float float") => `(tactic| (refine AutoFloatOps.mod_1 (by decide +kernel) ?_; dsimp only [Made.post]))
local macro_rules | `(tactic| walk_at "my bar") => `(tactic| (
  (fail_if_success (with_reducible show wpAny _ _ (pyIter _) _ _ _)); (fail_if_success (with_reducible show wpAny _ _ (exec (Stmt.For _ _ _ _ _) _) _ _ _)); (fail_if_success (with_reducible show wpAny _ _ (eval (Expr.ListComp _ _ _ _) _) _ _ _)); (fail_if_success (with_reducible show wpAny _ _ (exec (Stmt.Assign _ (Expr.ListComp _ _ _ _) _) _) _ _ _))))
local macro_rules | `(tactic| walk_at "my go") => `(tactic| repeat' (first | (k_unfold; (try dsimp only)) | (walk_at "my bar"; walk1) | (walk_at "my bar"; dsimp only; walk_at "my bar"; walk1)))
local macro_rules | `(tactic| walk_at "my for") => `(tactic| (refine' forV ?k1 ?k2 ?k3 ?k4 ?_; (case k1 => k_asm); (case k2 => rfl); (case k3 => rfl); (case k4 => (intro _; rfl)); (try k_fold)))
local macro_rules | `(tactic| walk_at "eval Name") => `(tactic| (refine' Sees.at ?k1 ?k2 ?_ ?k3; (case k1 => assumption); (case k2 => assumption); (case k3 => decide)))
local macro_rules | `(tactic| walk_at "binaryOp Div int float") => `(tactic| (refine AutoFloatOps.truediv_if_2 (Float64.ofInt_fits (by assumption)) (by decide +kernel) ?_; dsimp only [Made.post]))
local macro_rules | `(tactic| walk_at "call ref") => `(tactic| ((with_reducible show wpAny _ _ (call (Value.ref 35) _) _ _ _); refine' useK ?k1 ?k2 (c_v ?k3 ?k4 ?k5 ?k6 _ _ _ _ _ _) ?_; (case k1 => k_asm); (case k2 => k_asm); (case k3 => k_asm); (case k4 => assumption); (case k5 => exact Fr.keep (by k_asm)); (case k6 => (dsimp only [Ar, Around.deeper]; omega)); intro v' h' tk' K' F' N' P'; obtain ⟨t', P'⟩ := P'; subst P'; (try k_sweep)))
local macro_rules | `(tactic| walk_at "call type:int") => `(tactic| ((with_reducible show wpAny _ _ (call (Value.type "int") [Value.float _ _]) _ _ _); refine int_fin (by assumption) ?_))
local macro_rules | `(tactic| walk_at "binaryOp Sub float int") => `(tactic| ((with_reducible show wpAny _ _ (binaryOp Operator.Sub (Value.float _ _) (Value.int _ _)) _ _ _); refine sub_fi_fits (by assumption) ?_))
local macro_rules | `(tactic| walk_at "call ref") => `(tactic| ((with_reducible show wpAny _ _ (call (Value.ref 42) _) _ _ _); refine' useS ?k1 (c_hsv ?k3 ?k4 ?k1 ?k6 _ _ _ _ _ _ ?k7 ?k8) ?_; (case k1 => assumption); (case k3 => assumption); (case k4 => assumption); (case k6 => (dsimp only [Ar, Around.deeper]; omega)); (case k7 => assumption); (case k8 => assumption); intro v' h' tk' st' P'; (have X' := Frag.In.keeps (by assumption) st'); obtain ⟨l', t1', t2', t3', P', hl'⟩ := P'; subst P'))
local macro_rules | `(tactic| walk_at "call ref") => `(tactic| ((with_reducible show wpAny _ _ (call (Value.ref 28) _) _ _ _); refine' useS ?k1 (c_hls ?k3 ?k4 ?k1 ?k6 _ _ _ _ _ _) ?_; (case k1 => assumption); (case k3 => assumption); (case k4 => assumption); (case k6 => (dsimp only [Ar, Around.deeper]; omega)); intro v' h' tk' st' P'; (have X' := Frag.In.keeps (by assumption) st'); obtain ⟨l', t1', t2', t3', P', hl'⟩ := P'; subst P'))
local macro_rules | `(tactic| walk_at "call ref") => `(tactic| ((with_reducible show wpAny _ _ (call (Value.ref 49) _) _ _ _); refine' useS ?k1 (c_sign ?k3 ?k4 ?k1 ?k6 _ _ _ _ _ _ _ ?k7 ?k8 ?k9 ?k10) ?_; (case k1 => assumption); (case k3 => assumption); (case k4 => assumption); (case k6 => (dsimp only [Ar, Around.deeper]; omega)); (case k7 => assumption); (case k8 => assumption); (case k9 => assumption); (case k10 => assumption); intro v' h' tk' st' P'; (have X' := Frag.In.keeps (by assumption) st'); obtain ⟨t', P'⟩ := P'; subst P'))
section
variable {prog : Program} {w : World} {A : Around} {E : Value → Shared → Prop} {s : Shared} {env : Env}
def CL (prog : Program) (w : World) (A : Around) (env : Env) (elt : Expr) (x : Str) (scope : Scope) (cl : List (Str × Addr)) (G : Value → Value → Prop) (Q : Value → Shared → Prop) (xv : Value) (s₁ : Shared) : Prop :=
  ∃ ax items, xv = .ref ax ∧ s₁.heap.IsList ax items ∧ items.size ≤ sizeLine ∧
    (∀ C (i : Nat) v s₃ m₃ cenv, cenv = compEnvC scope cl C env → items[i]? = some v → s₃.heap.Ns C m₃ → m₃ x = some v → s₁.heap.StaysIn s₃.heap →
        wpAny (model prog w) A (eval elt cenv) (Post s₃ fun y _ => G v y) (fun _ _ => False) s₃) ∧
    (∀ D h' tk ys, s₁.heap.get? D = none → h'.PlainList D ys → Paired G items.toList ys.toList → s₁.heap.StaysIn h' → Q (.ref D) { s₁ with heap := h', toks := tk })
theorem CL.intro {elt : Expr} {x : Str} {scope : Scope} {cl : List (Str × Addr)} {G : Value → Value → Prop} {Q : Value → Shared → Prop} {s₁ : Shared} {ax : Addr} {items : Array Value} (hl : s₁.heap.IsList ax items) (hsz : items.size ≤ sizeLine)
    (helt : ∀ C (i : Nat) v s₃ m₃ cenv, cenv = compEnvC scope cl C env → items[i]? = some v → s₃.heap.Ns C m₃ → m₃ x = some v → s₁.heap.StaysIn s₃.heap →
        wpAny (model prog w) A (eval elt cenv) (Post s₃ fun y _ => G v y) (fun _ _ => False) s₃)
    (hQ : ∀ D h' tk ys, s₁.heap.get? D = none → h'.PlainList D ys → Paired G items.toList ys.toList → s₁.heap.StaysIn h' → Q (.ref D) { s₁ with heap := h', toks := tk }) :
    CL prog w A env elt x scope cl G Q (.ref ax) s₁ := ⟨ax, items, rfl, hl, hsz, helt, hQ⟩
theorem comp_list {elt iter : Expr} {x : Str} {px : Pos} {scope : Scope} {cl : List (Str × Addr)} {pos : Pos} {Q : Value → Shared → Prop} (G : Value → Value → Prop) (hh : A.handled = none)
    (hclos : closureFor scope env = pure cl) (hcell : ∀ y ∈ scope.names, y.2 ≠ .cell) (hkind : scope.kind = .function)
    (hnames : ∀ y ∈ scope.names, y.2 = .local → scope.names.lookup y.1 = some .local) (hx : scope.names.lookup x = some .local)
    (hs : ∀ x, foldedSetIterable iter env x = pure x)
    (h : wpAny (model prog w) A (eval iter env) (CL prog w A env elt x scope cl G Q) E s) :
    wpAny (model prog w) A (eval (.ListComp elt [⟨.Name x px, iter, [], 0⟩] scope pos) env) Q E s := by
  refine wpAny_ListComp_free (fun _ => true) G hclos hcell hkind hnames hx (wpAny_mono h (fun xv s₁ h₁ => ?_) fun _ _ e => e) hs
  obtain ⟨ax, items, rfl, hl, hsz, helt, hQ⟩ := h₁
  have hlt : ax < s₁.heap.objs.size := by obtain ⟨_, e, _⟩ := hl; exact Heap.lt_size e
  refine wpAny_pyIter_list hl ?_
  have notI : ∀ c o, s₁.heap.get? c = some o → c ∉ [s₁.heap.objs.size] := fun c o e hm => absurd (Heap.lt_size e) ((List.mem_singleton.mp hm) ▸ Nat.lt_irrefl _)
  have up : ∀ {h₃ : Heap}, (∀ q o, q ∉ [s₁.heap.objs.size] → (s₁.heap.push { cls := .type "list_iterator", data := .fields #[.ref ax, .int 0 0] }).get? q = some o → h₃.get? q = some o) → s₁.heap.StaysIn h₃ :=
    fun k c o e => k c o (notI c o e) (Heap.get?_push_of_some _ e)
  refine ⟨s₁.heap.objs.size, [s₁.heap.objs.size, ax], [s₁.heap.objs.size], items.size, (fun i v => items[i]? = some v), _, rfl, Walks.list hh s₁.heap.objs.size ax (Nat.ne_of_lt hlt) items, hsz,
    ⟨⟨_, Heap.get?_push_size _ rfl, rfl, rfl⟩, hl.push _⟩, ?_, ⟨?_, ?_⟩, ?_⟩
  · intro b hb
    show b < (s₁.heap.push _).objs.size
    rw [Heap.size_push]
    rcases List.mem_cons.mp hb with rfl | hb
    · exact Nat.lt_succ_self _
    · rcases List.mem_cons.mp hb with rfl | hb
      · exact Nat.lt_succ_of_lt hlt
      · cases hb
  · intro C i v s₃ m₃ E' _ hP hn hm hold _
    exact wpAny_pure ⟨rfl, keeps_refl _⟩
  · intro C i v s₃ m₃ E' _ hP hp hn hm hold _
    exact wpAny_mono (helt C i v s₃ m₃ _ rfl hP hn hm (up hold)) (fun y s₄ h₄ => ⟨h₄.2, h₄.1⟩) fun _ _ q => q.elim
  · intro D h' tk ys vs hD hl' hpl hlen hP hF hk
    refine hQ D h' tk ys ?_ hpl ?_ (up hk)
    · cases e : s₁.heap.get? D with
      | none => rfl
      | some o => rw [Heap.get?_push_of_some _ e] at hD; cases hD
    · rw [List.filter_eq_self.mpr (fun _ _ => rfl), list_of_places hlen hP] at hF
      exact hF
end

end
section
local macro_rules | `(tactic| walk_at "binaryOp Mod float float") => `(tactic| (refine AutoFloatOps.mod_1 (by decide +kernel) ?_; dsimp only [Made.post]))
local macro_rules | `(tactic| walk_at "my bar") => `(tactic| (
  (fail_if_success (with_reducible show wpAny _ _ (pyIter _) _ _ _)); (fail_if_success (with_reducible show wpAny _ _ (exec (Stmt.For _ _ _ _ _) _) _ _ _)); (fail_if_success (with_reducible show wpAny _ _ (eval (Expr.ListComp _ _ _ _) _) _ _ _)); (fail_if_success (with_reducible show wpAny _ _ (exec (Stmt.Assign _ (Expr.ListComp _ _ _ _) _) _) _ _ _))))
local macro_rules | `(tactic| walk_at "my go") => `(tactic| repeat' (first | (k_unfold; (try dsimp only)) | (walk_at "my bar"; walk1) | (walk_at "my bar"; dsimp only; walk_at "my bar"; walk1)))
local macro_rules | `(tactic| walk_at "my for") => `(tactic| (refine' forV ?k1 ?k2 ?k3 ?k4 ?_; (case k1 => k_asm); (case k2 => rfl); (case k3 => rfl); (case k4 => (intro _; rfl)); (try k_fold)))
local macro_rules | `(tactic| walk_at "eval Name") => `(tactic| (refine' Sees.at ?k1 ?k2 ?_ ?k3; (case k1 => assumption); (case k2 => assumption); (case k3 => decide)))
local macro_rules | `(tactic| walk_at "binaryOp Div int float") => `(tactic| (refine AutoFloatOps.truediv_if_2 (Float64.ofInt_fits (by assumption)) (by decide +kernel) ?_; dsimp only [Made.post]))
local macro_rules | `(tactic| walk_at "call ref") => `(tactic| ((with_reducible show wpAny _ _ (call (Value.ref 35) _) _ _ _); refine' useK ?k1 ?k2 (c_v ?k3 ?k4 ?k5 ?k6 _ _ _ _ _ _) ?_; (case k1 => k_asm); (case k2 => k_asm); (case k3 => k_asm); (case k4 => assumption); (case k5 => exact Fr.keep (by k_asm)); (case k6 => (dsimp only [Ar, Around.deeper]; omega)); intro v' h' tk' K' F' N' P'; obtain ⟨t', P'⟩ := P'; subst P'; (try k_sweep)))
local macro_rules | `(tactic| walk_at "call type:int") => `(tactic| ((with_reducible show wpAny _ _ (call (Value.type "int") [Value.float _ _]) _ _ _); refine int_fin (by assumption) ?_))
local macro_rules | `(tactic| walk_at "binaryOp Sub float int") => `(tactic| ((with_reducible show wpAny _ _ (binaryOp Operator.Sub (Value.float _ _) (Value.int _ _)) _ _ _); refine sub_fi_fits (by assumption) ?_))
local macro_rules | `(tactic| walk_at "call ref") => `(tactic| ((with_reducible show wpAny _ _ (call (Value.ref 42) _) _ _ _); refine' useS ?k1 (c_hsv ?k3 ?k4 ?k1 ?k6 _ _ _ _ _ _ ?k7 ?k8) ?_; (case k1 => assumption); (case k3 => assumption); (case k4 => assumption); (case k6 => (dsimp only [Ar, Around.deeper]; omega)); (case k7 => assumption); (case k8 => assumption); intro v' h' tk' st' P'; (have X' := Frag.In.keeps (by assumption) st'); obtain ⟨l', t1', t2', t3', P', hl'⟩ := P'; subst P'))
local macro_rules | `(tactic| walk_at "call ref") => `(tactic| ((with_reducible show wpAny _ _ (call (Value.ref 28) _) _ _ _); refine' useS ?k1 (c_hls ?k3 ?k4 ?k1 ?k6 _ _ _ _ _ _) ?_; (case k1 => assumption); (case k3 => assumption); (case k4 => assumption); (case k6 => (dsimp only [Ar, Around.deeper]; omega)); intro v' h' tk' st' P'; (have X' := Frag.In.keeps (by assumption) st'); obtain ⟨l', t1', t2', t3', P', hl'⟩ := P'; subst P'))
local macro_rules | `(tactic| walk_at "call ref") => `(tactic| ((with_reducible show wpAny _ _ (call (Value.ref 49) _) _ _ _); refine' useS ?k1 (c_sign ?k3 ?k4 ?k1 ?k6 _ _ _ _ _ _ _ ?k7 ?k8 ?k9 ?k10) ?_; (case k1 => assumption); (case k3 => assumption); (case k4 => assumption); (case k6 => (dsimp only [Ar, Around.deeper]; omega)); (case k7 => assumption); (case k8 => assumption); (case k9 => assumption); (case k10 => assumption); intro v' h' tk' st' P'; (have X' := Frag.In.keeps (by assumption) st'); obtain ⟨t', P'⟩ := P'; subst P'))
def Ahead (hs : List Nat) (spot M : Int) : Prop := (∃ h ∈ hs, M = ((h : Int) - spot).fmod 16) ∧ ∀ h ∈ hs, M ≤ ((h : Int) - spot).fmod 16
inductive Ends (shut : Bool) (sz : List Int) (ck : List (List Nat)) : Nat → Int → Prop
  | zero : Ends shut sz ck 0 0
  | skip {i : Nat} {spot z : Int} : Ends shut sz ck i spot → sz[i]? = some z → ¬ 0 < z → Ends shut sz ck (i + 1) spot
  | go {i : Nat} {spot z M : Int} {hs : List Nat} : Ends shut sz ck i spot → sz[i]? = some z → 0 < z → ck[i]? = some hs → Ahead hs spot M → ¬ (shut = true ∧ i = 0 ∧ 0 < M) → Ends shut sz ck (i + 1) (spot + (M + z))
def Stuck (shut : Bool) (sz : List Int) (ck : List (List Nat)) : Prop :=
  ∃ i spot z hs, Ends shut sz ck i spot ∧ sz[i]? = some z ∧ 0 < z ∧ ck[i]? = some hs ∧ (hs = [] ∨ ∃ M, Ahead hs spot M ∧ shut = true ∧ i = 0 ∧ 0 < M)
def Ended (shut : Bool) (sz : List Int) (ck : List (List Nat)) (r : Int) : Prop := Ends shut sz ck sz.length r ∨ (r = 99 ∧ Stuck shut sz ck)
theorem ends_bounds {shut : Bool} {sz : List Int} {ck : List (List Nat)} (hsz : ∀ z ∈ sz, 0 ≤ z ∧ z ≤ 3) {i : Nat} {spot : Int} (h : Ends shut sz ck i spot) : 0 ≤ spot ∧ spot ≤ 20 * i := by
  induction h with
  | zero => exact ⟨by decide, by decide⟩
  | skip h hz hn ih => push_cast; omega
  | @go _ _ _ M' _ h hz hp hc ha hs ih =>
    obtain ⟨⟨q, _, e⟩, _⟩ := ha
    have h3 := hsz _ (List.mem_of_getElem? hz)
    have h1 : 0 ≤ M' ∧ M' < 16 := by rw [e]; exact ⟨Int.fmod_nonneg_of_pos _ (by decide), Int.fmod_lt_of_pos _ (by decide)⟩
    push_cast
    omega
theorem rng_facts {n : Nat} (h : n ≤ 64) : Builtin.Range.small 0 (n : Int) 1 = true ∧ Builtin.Range.rangeSize 0 (n : Int) 1 = (n : Int) := by
  have : ∀ k : Fin 65, Builtin.Range.small 0 (k.val : Int) 1 = true ∧ Builtin.Range.rangeSize 0 (k.val : Int) 1 = (k.val : Int) := by decide +kernel
  exact this ⟨n, by omega⟩
theorem lst_up {h₀ h : Heap} {L a : Addr} {m : Str → Option Value} {vs : Array Value} (hl : h₀.IsList a vs) (F : Fr h₀ L h m) : h.IsList a vs := hl.at fun o e => F.keep _ o e
local macro_rules | `(tactic| walk_at "subscriptTail Name Name ref int") => `(tactic| (refine' item_litK ?k1 ?k2 ?k3 ?k4 ?_ ?k6; (case k4 => assumption); (case k1 => (refine' lst_up ?a1 ?a2; (case a1 => assumption); (case a2 => assumption))); (case k2 => omega); (case k3 => omega); (case k6 => with_unfolding_all rfl)))
theorem ints_min {spot : Int} : ∀ {vs : List Value} {hs : List Nat} {ys : List Value}, IntsAre vs (hs.map fun (n : Nat) => (n : Int)) → Paired (fun v y => ∀ n t, v = Value.int n t → ∃ u, y = Value.int ((n - spot).fmod 16) u) vs ys →
    IntsAre ys (hs.map fun (n : Nat) => ((n : Int) - spot).fmod 16)
  | _, [], _, h, p => by cases h; cases p; exact .nil
  | _, q :: hs, _, h, p => by
    rw [List.map_cons] at h
    cases h with
    | cons n t r =>
      cases p with
      | cons a b =>
        obtain ⟨u, e⟩ := a _ t rfl
        subst e
        exact .cons _ u (ints_min r b)
variable {w : World} {mean : ExcName → Option Value} {mg mb : Str → Option Value} {base : Heap} {dp un : Nat} {fr : Option (List Env)} {gd : Option (List Code)} {s : Shared}
theorem c_end (X₀ : (hd.heap_39 w.params).In base) (T₀ : Top hd.view_39 Lv mean mg mb base) (st : base.StaysIn s.heap) (hA : dp + 4 < recursionLimit) (hu : un + 40 < cLine)
   (lz lc : Addr) (zs cs : List Value) (sz : List Int) (ck : List (List Nat)) (shut : Bool) (hz : s.heap.IsList lz zs.toArray) (hzi : IntsAre zs sz) (hc : s.heap.IsList lc cs.toArray) (hlen : sz.length ≤ ck.length) (hn : ck.length ≤ 8) (hcl : cs.length = ck.length)
   (hci : ∀ (j : Nat) (hs : List Nat), ck[j]? = some hs → hs.length ≤ 16 ∧ (∀ h ∈ hs, h < 16) ∧ ∃ a vs, cs[j]? = some (.ref a) ∧ s.heap.IsList a vs ∧ IntsAre vs.toList (hs.map fun (n : Nat) => (n : Int))) (hsz : ∀ z ∈ sz, 0 ≤ z ∧ z ≤ 3) :
   wpAny (model Pr w) (Ar dp un fr gd) (call (.ref 76) [.ref lz, .ref lc, .bool shut]) (Post s fun v h' => ∃ i t, v = .int i t ∧ Ended shut sz ck i) (fun _ _ => False) s := by
  have X := X₀.keeps st
  have T := T₀.keeps st
  clear X₀ T₀ st
  refine' enterC [(Str.ofString "sizes", .ref lz), (Str.ofString "clock", .ref lc), (Str.ofString "shut", .bool shut)] ?k1 ?k2 ?k3 ?k6 ?k7 ?k8 ?k9 ?kB ?c5 ?_ ?c2 ?c3 ?c4; (case k1 => k_asm); (case k2 => first | assumption | exact fun _ _ e => e); (case k3 => exact Top.nolimit (by assumption)); (case k6 => k_is); (case k7 => k_is); (case k8 => (dsimp only [Ar]; omega)); (case k9 => exact BindsTo.of_eq rfl); (case c5 => decide); (case kB => exact rfl); (case c2 => exact rfl); (case c3 => exact rfl); (case c4 => exact rfl); k_whole; intro h₁ tk cells F N Y; k_cells Y; (try k_unmd); (try dsimp only); k_fold
  walk_at "my go"
  walk_at "my for"
  walk_at "my go"
  refine iter_rng (n := sz.length) (fun i m news => (∃ o spot t, news = [(s.heap.objs.size + 1, o)] ∧ o.data = .cell (some (.int spot t)) ∧ Ends shut sz ck i spot) ∧ m (Str.ofString "sizes") = some (.ref lz) ∧ m (Str.ofString "clock") = some (.ref lc) ∧ m (Str.ofString "shut") = some (.bool shut)) rfl (by assumption) ?_ ?_ (by assumption) (by assumption) ⟨⟨_, _, _, rfl, by assumption, .zero⟩, rfl, rfl, rfl⟩ ?_ ?_
  · exact (rng_facts (by omega)).1
  · exact (rng_facts (by omega)).2
  · intro i v m₁ news₁ h tk own hi hv ha ho hj F N
    obtain ⟨tv, rfl⟩ := hv
    obtain ⟨⟨o, spot, ts, rfl, hd, he⟩, hm1, hm2, hm3⟩ := hj
    replace F : Fr s.heap s.heap.objs.size h _ := frAs (frAs (frAs F (Str.ofString "sizes") hm1) (Str.ofString "clock") hm2) (Str.ofString "shut") hm3
    replace N : News s.heap s.heap.objs.size h ((s.heap.objs.size + 1, o) :: own) := N
    have ez : (0 : Int) + (i : Int) * 1 = (i : Int) := by omega
    rw [ez] at F
    clear hm1 hm2 hm3 ha ez
    have hi2 : i < ck.length := by omega
    obtain ⟨hb1, hb2⟩ := ends_bounds hsz he
    obtain ⟨hh1, hh2, a, vs, hca, hal, hai⟩ := hci i ck[i] (by simp [hi2])
    generalize hhs : ck[i] = hs at *
    have hck : ck[i]? = some hs := by rw [List.getElem?_eq_getElem hi2, hhs]
    have hca' : cs[(i : Int).toNat]? = some (.ref a) := by simpa using hca
    obtain ⟨z, hz'⟩ : ∃ z, sz[i]? = some z := ⟨_, List.getElem?_eq_getElem hi⟩
    have hzd : sz.getD (i : Int).toNat 0 = z := by rw [List.getD_eq_getElem?_getD]; simp [hz']
    have hzb := hsz z (List.mem_of_getElem? hz')
    walk_at "my go"
    · rename 0 < sz.getD _ _ => hzp
      rw [hzd] at hzp
      refine comp_list (fun v y => ∀ n t, v = Value.int n t → ∃ u, y = Value.int ((n - spot).fmod 16) u) rfl (by rfl) (by decide) rfl (by decide) (by decide) (by intro _; rfl) ?_
      walk_at "my go"
      refine CL.intro (lst_up hal F) ?_ ?_ ?_
      · have := hai.length
        rw [Array.length_toList, List.length_map] at this
        rw [this, sizeLine_eq]
        omega
      · intro C j v s₃ m₃ cenv hE hv hm hx st₃
        dsimp only at st₃
        have hv2 : ∃ n t, v = .int n t := by
          have h1 : v ∈ vs.toList := List.mem_of_getElem? (by simpa using hv)
          obtain ⟨k, hk⟩ := List.mem_iff_getElem?.mp h1
          have h2 : k < hs.length := by
            have := hai.length
            rw [List.length_map] at this
            rw [← this]
            exact (List.getElem?_eq_some_iff.mp hk).1
          obtain ⟨t, ht⟩ := hai.get k _ (by rw [List.getElem?_map, List.getElem?_eq_getElem h2]; rfl)
          rw [hk] at ht
          exact ⟨_, t, Option.some.inj ht⟩
        obtain ⟨n, tn, rfl⟩ := hv2
        have S1 : Sees cenv s₃.heap (Str.ofString "spot") (.int spot ts) := by rw [hE]; exact cellSees N st₃ rfl rfl rfl (by k_mem) (by assumption)
        have S5 : Sees cenv s₃.heap (Str.ofString "hour") (.int n tn) := by rw [hE]; exact .loc m₃ rfl rfl hm hx
        have st : s₃.heap.StaysIn s₃.heap := stays_refl _
        walk_at "my go"
        refine ⟨⟨_, _, rfl, stays_refl _⟩, ?_⟩
        intro n' t' e
        cases e
        exact ⟨_, rfl⟩
      · intro D h' tk' ys hD hl' hy hk
        have F' := F.keeps hk
        have N' := N.grown hk
        have hmi := ints_min hai hy
        walk_at "my go"
        have hl2 : h'.IsList D ys.toList.toArray := by rw [Array.toArray_toList]; exact hl'.isList
        refine min_list_N rfl F' N' hl2 hmi (by simpa using ‹0 < (List.map (fun (n : Nat) => (n : Int)) hs).length›) ?_
        clear F' N' F N
        intro h₂ M tM tk₂ F N hM hMle
        have hah : Ahead hs spot M := by
          obtain ⟨q, hq, e⟩ := List.mem_map.mp hM
          exact ⟨⟨q, hq, e.symm⟩, fun h hh => hMle _ (List.mem_map.mpr ⟨h, hh, rfl⟩)⟩
        walk_at "my go"
        · show Post s (fun v h' => ∃ i t, v = .int i t ∧ Ended shut sz ck i) _ _
          exact Post.intro (by assumption) ⟨99, _, rfl, .inr ⟨rfl, i, spot, z, hs, he, hz', hzp, hck, .inr ⟨M, hah, by assumption, by omega, by assumption⟩⟩⟩
        all_goals
          rename Fr _ _ _ _ => F9
          rename News _ _ _ _ => N9
          rename Obj.data _ = Data.cell (some (Value.int (spot + (M + sz.getD (i : Int).toNat 0)) _)) => d9
          rw [hzd] at d9
          exact TPost.next [(s.heap.objs.size + 1, _)] F9 N9 rfl ⟨⟨_, _, _, rfl, d9, .go he hz' hzp hck hah (by rintro ⟨q1, q2, q3⟩; first | omega | exact absurd q1 (by assumption) | exact absurd (q1.symm.trans ‹shut = false›) (by decide))⟩, rfl, rfl, rfl⟩
    · rename 0 < sz.getD _ _ => hzp
      rw [hzd] at hzp
      rename ¬ 0 < (List.map _ hs).length => hnil
      have hnil' : hs = [] := by
        cases hs with
        | nil => rfl
        | cons a b => exact absurd (Nat.succ_pos _) hnil
      show Post s (fun v h' => ∃ i t, v = .int i t ∧ Ended shut sz ck i) _ _
      exact Post.intro (by assumption) ⟨99, _, rfl, .inr ⟨rfl, i, spot, z, hs, he, hz', hzp, hck, .inl hnil'⟩⟩
    · rename ¬ 0 < sz.getD _ _ => hzp
      rw [hzd] at hzp
      rename Fr _ _ _ _ => F9
      rename News _ _ _ _ => N9
      exact TPost.next [(s.heap.objs.size + 1, _)] F9 N9 rfl ⟨⟨_, _, _, rfl, hd, .skip he hz' hzp⟩, rfl, rfl, rfl⟩
  · intro m₁ news₁ h tk hj ha F N
    obtain ⟨⟨o, spot, ts, rfl, hd, he⟩, hm1, hm2, hm3⟩ := hj
    replace N : News s.heap s.heap.objs.size h [(s.heap.objs.size + 1, o)] := N
    replace F : Fr s.heap s.heap.objs.size h _ := F
    walk_at "my go"
    exact Post.intro (by assumption) ⟨_, _, rfl, .inl he⟩

end
section
local macro_rules | `(tactic| walk_at "binaryOp Mod float float") => `(tactic| (refine AutoFloatOps.mod_1 (by decide +kernel) ?_; dsimp only [Made.post]))
local macro_rules | `(tactic| walk_at "my bar") => `(tactic| (
  (fail_if_success (with_reducible show wpAny _ _ (pyIter _) _ _ _)); (fail_if_success (with_reducible show wpAny _ _ (exec (Stmt.For _ _ _ _ _) _) _ _ _)); (fail_if_success (with_reducible show wpAny _ _ (eval (Expr.ListComp _ _ _ _) _) _ _ _)); (fail_if_success (with_reducible show wpAny _ _ (exec (Stmt.Assign _ (Expr.ListComp _ _ _ _) _) _) _ _ _))))
local macro_rules | `(tactic| walk_at "my go") => `(tactic| repeat' (first | (k_unfold; (try dsimp only)) | (walk_at "my bar"; walk1) | (walk_at "my bar"; dsimp only; walk_at "my bar"; walk1)))
local macro_rules | `(tactic| walk_at "my for") => `(tactic| (refine' forV ?k1 ?k2 ?k3 ?k4 ?_; (case k1 => k_asm); (case k2 => rfl); (case k3 => rfl); (case k4 => (intro _; rfl)); (try k_fold)))
local macro_rules | `(tactic| walk_at "eval Name") => `(tactic| (refine' Sees.at ?k1 ?k2 ?_ ?k3; (case k1 => assumption); (case k2 => assumption); (case k3 => decide)))
local macro_rules | `(tactic| walk_at "binaryOp Div int float") => `(tactic| (refine AutoFloatOps.truediv_if_2 (Float64.ofInt_fits (by assumption)) (by decide +kernel) ?_; dsimp only [Made.post]))
local macro_rules | `(tactic| walk_at "call ref") => `(tactic| ((with_reducible show wpAny _ _ (call (Value.ref 35) _) _ _ _); refine' useK ?k1 ?k2 (c_v ?k3 ?k4 ?k5 ?k6 _ _ _ _ _ _) ?_; (case k1 => k_asm); (case k2 => k_asm); (case k3 => k_asm); (case k4 => assumption); (case k5 => exact Fr.keep (by k_asm)); (case k6 => (dsimp only [Ar, Around.deeper]; omega)); intro v' h' tk' K' F' N' P'; obtain ⟨t', P'⟩ := P'; subst P'; (try k_sweep)))
local macro_rules | `(tactic| walk_at "call type:int") => `(tactic| ((with_reducible show wpAny _ _ (call (Value.type "int") [Value.float _ _]) _ _ _); refine int_fin (by assumption) ?_))
local macro_rules | `(tactic| walk_at "binaryOp Sub float int") => `(tactic| ((with_reducible show wpAny _ _ (binaryOp Operator.Sub (Value.float _ _) (Value.int _ _)) _ _ _); refine sub_fi_fits (by assumption) ?_))
local macro_rules | `(tactic| walk_at "call ref") => `(tactic| ((with_reducible show wpAny _ _ (call (Value.ref 42) _) _ _ _); refine' useS ?k1 (c_hsv ?k3 ?k4 ?k1 ?k6 _ _ _ _ _ _ ?k7 ?k8) ?_; (case k1 => assumption); (case k3 => assumption); (case k4 => assumption); (case k6 => (dsimp only [Ar, Around.deeper]; omega)); (case k7 => assumption); (case k8 => assumption); intro v' h' tk' st' P'; (have X' := Frag.In.keeps (by assumption) st'); obtain ⟨l', t1', t2', t3', P', hl'⟩ := P'; subst P'))
local macro_rules | `(tactic| walk_at "call ref") => `(tactic| ((with_reducible show wpAny _ _ (call (Value.ref 28) _) _ _ _); refine' useS ?k1 (c_hls ?k3 ?k4 ?k1 ?k6 _ _ _ _ _ _) ?_; (case k1 => assumption); (case k3 => assumption); (case k4 => assumption); (case k6 => (dsimp only [Ar, Around.deeper]; omega)); intro v' h' tk' st' P'; (have X' := Frag.In.keeps (by assumption) st'); obtain ⟨l', t1', t2', t3', P', hl'⟩ := P'; subst P'))
local macro_rules | `(tactic| walk_at "call ref") => `(tactic| ((with_reducible show wpAny _ _ (call (Value.ref 49) _) _ _ _); refine' useS ?k1 (c_sign ?k3 ?k4 ?k1 ?k6 _ _ _ _ _ _ _ ?k7 ?k8 ?k9 ?k10) ?_; (case k1 => assumption); (case k3 => assumption); (case k4 => assumption); (case k6 => (dsimp only [Ar, Around.deeper]; omega)); (case k7 => assumption); (case k8 => assumption); (case k9 => assumption); (case k10 => assumption); intro v' h' tk' st' P'; (have X' := Frag.In.keeps (by assumption) st'); obtain ⟨t', P'⟩ := P'; subst P'))
local macro_rules | `(tactic| walk_at "subscriptTail Name Name ref int") => `(tactic| (refine' item_litK ?k1 ?k2 ?k3 ?k4 ?_ ?k6; (case k4 => assumption); (case k1 => (refine' lst_up ?a1 ?a2; (case a1 => assumption); (case a2 => assumption))); (case k2 => omega); (case k3 => omega); (case k6 => with_unfolding_all rfl)))
theorem gives_find4 (x y : Str) (i j : Int) (t u v v' : Tok) : Gives (Builtin.«str.find» ⟨[.str x t, .str y u, .int i v, .int j v'], []⟩) (.int (match Builtin.Str.occurrences x y (fromIndex x.length i) (min (fromIndex x.length j) x.length) 1 with | k :: _ => (k : Int) | [] => -1)) := by
  show Gives (match Builtin.Str.occurrences x y (fromIndex x.length i) (min (fromIndex x.length j) x.length) 1 with | k :: _ => retInt k | [] => (do rule "str.find.not-found"; retInt (-1))) _
  cases Builtin.Str.occurrences x y (fromIndex x.length i) (min (fromIndex x.length j) x.length) 1 with
  | nil => exact .rule (.of_eq rfl)
  | cons k _ => exact .of_eq rfl
theorem args_find4 (a b c d : Value) : argsOk "str.find" ⟨[a, b, c, d], []⟩ := by unfold argsOk; kernel_rfl
def findF (x y : Str) (lo hi : Nat) : Int := match Builtin.Str.occurrences x y lo hi 1 with | k :: _ => (k : Int) | [] => -1
theorem fromIndex_nat (n i : Nat) : fromIndex n (i : Int) = i := by unfold fromIndex; rw [if_neg (by omega)]; omega
theorem find4 {prog : Program} {w : World} {A : Around} {E : Value → Shared → Prop} {s : Shared} {x y : Str} {t u v v' : Tok} {i j : Nat} {Q : Value → Shared → Prop} (hj : j ≤ x.length) (hq : Q (.int (findF x y i j) s.toks) { s with toks := s.toks + 1 }) :
    wpAny (model prog w) A (call (.builtin "str.find") [.str x t, .str y u, .int (i : Int) v, .int (j : Int) v']) Q E s := by
  refine call_gives F.slot_str_find (typeIs_str _ _ _) F.entry_str_find (args_find4 _ _ _ _) (gives_find4 x y i j t u v v') ?_
  rw [fromIndex_nat, fromIndex_nat, Nat.min_eq_left hj]
  exact hq

end
section
local macro_rules | `(tactic| walk_at "binaryOp Mod float float") => `(tactic| (refine AutoFloatOps.mod_1 (by decide +kernel) ?_; dsimp only [Made.post]))
local macro_rules | `(tactic| walk_at "my bar") => `(tactic| (
  (fail_if_success (with_reducible show wpAny _ _ (pyIter _) _ _ _)); (fail_if_success (with_reducible show wpAny _ _ (exec (Stmt.For _ _ _ _ _) _) _ _ _)); (fail_if_success (with_reducible show wpAny _ _ (eval (Expr.ListComp _ _ _ _) _) _ _ _)); (fail_if_success (with_reducible show wpAny _ _ (exec (Stmt.Assign _ (Expr.ListComp _ _ _ _) _) _) _ _ _))))
local macro_rules | `(tactic| walk_at "my go") => `(tactic| repeat' (first | (k_unfold; (try dsimp only)) | (walk_at "my bar"; walk1) | (walk_at "my bar"; dsimp only; walk_at "my bar"; walk1)))
local macro_rules | `(tactic| walk_at "my for") => `(tactic| (refine' forV ?k1 ?k2 ?k3 ?k4 ?_; (case k1 => k_asm); (case k2 => rfl); (case k3 => rfl); (case k4 => (intro _; rfl)); (try k_fold)))
local macro_rules | `(tactic| walk_at "eval Name") => `(tactic| (refine' Sees.at ?k1 ?k2 ?_ ?k3; (case k1 => assumption); (case k2 => assumption); (case k3 => decide)))
local macro_rules | `(tactic| walk_at "binaryOp Div int float") => `(tactic| (refine AutoFloatOps.truediv_if_2 (Float64.ofInt_fits (by assumption)) (by decide +kernel) ?_; dsimp only [Made.post]))
local macro_rules | `(tactic| walk_at "call ref") => `(tactic| ((with_reducible show wpAny _ _ (call (Value.ref 35) _) _ _ _); refine' useK ?k1 ?k2 (c_v ?k3 ?k4 ?k5 ?k6 _ _ _ _ _ _) ?_; (case k1 => k_asm); (case k2 => k_asm); (case k3 => k_asm); (case k4 => assumption); (case k5 => exact Fr.keep (by k_asm)); (case k6 => (dsimp only [Ar, Around.deeper]; omega)); intro v' h' tk' K' F' N' P'; obtain ⟨t', P'⟩ := P'; subst P'; (try k_sweep)))
local macro_rules | `(tactic| walk_at "call type:int") => `(tactic| ((with_reducible show wpAny _ _ (call (Value.type "int") [Value.float _ _]) _ _ _); refine int_fin (by assumption) ?_))
local macro_rules | `(tactic| walk_at "binaryOp Sub float int") => `(tactic| ((with_reducible show wpAny _ _ (binaryOp Operator.Sub (Value.float _ _) (Value.int _ _)) _ _ _); refine sub_fi_fits (by assumption) ?_))
local macro_rules | `(tactic| walk_at "call ref") => `(tactic| ((with_reducible show wpAny _ _ (call (Value.ref 42) _) _ _ _); refine' useS ?k1 (c_hsv ?k3 ?k4 ?k1 ?k6 _ _ _ _ _ _ ?k7 ?k8) ?_; (case k1 => assumption); (case k3 => assumption); (case k4 => assumption); (case k6 => (dsimp only [Ar, Around.deeper]; omega)); (case k7 => assumption); (case k8 => assumption); intro v' h' tk' st' P'; (have X' := Frag.In.keeps (by assumption) st'); obtain ⟨l', t1', t2', t3', P', hl'⟩ := P'; subst P'))
local macro_rules | `(tactic| walk_at "call ref") => `(tactic| ((with_reducible show wpAny _ _ (call (Value.ref 28) _) _ _ _); refine' useS ?k1 (c_hls ?k3 ?k4 ?k1 ?k6 _ _ _ _ _ _) ?_; (case k1 => assumption); (case k3 => assumption); (case k4 => assumption); (case k6 => (dsimp only [Ar, Around.deeper]; omega)); intro v' h' tk' st' P'; (have X' := Frag.In.keeps (by assumption) st'); obtain ⟨l', t1', t2', t3', P', hl'⟩ := P'; subst P'))
local macro_rules | `(tactic| walk_at "call ref") => `(tactic| ((with_reducible show wpAny _ _ (call (Value.ref 49) _) _ _ _); refine' useS ?k1 (c_sign ?k3 ?k4 ?k1 ?k6 _ _ _ _ _ _ _ ?k7 ?k8 ?k9 ?k10) ?_; (case k1 => assumption); (case k3 => assumption); (case k4 => assumption); (case k6 => (dsimp only [Ar, Around.deeper]; omega)); (case k7 => assumption); (case k8 => assumption); (case k9 => assumption); (case k10 => assumption); intro v' h' tk' st' P'; (have X' := Frag.In.keeps (by assumption) st'); obtain ⟨t', P'⟩ := P'; subst P'))
local macro_rules | `(tactic| walk_at "subscriptTail Name Name ref int") => `(tactic| (refine' item_litK ?k1 ?k2 ?k3 ?k4 ?_ ?k6; (case k4 => assumption); (case k1 => (refine' lst_up ?a1 ?a2; (case a1 => assumption); (case a2 => assumption))); (case k2 => omega); (case k3 => omega); (case k6 => with_unfolding_all rfl)))
local macro_rules | `(tactic| walk_at "truthy str") => `(tactic| refine P.truthy_str (by omega) ?_)
local macro_rules | `(tactic| walk_at "my go assert") => `(tactic| repeat' (first | (k_unfold; (try dsimp only)) | (walk_at "my bar"; (fail_if_success (with_reducible show wpAny _ _ (exec (Stmt.Assert _ _ _) _) _ _ _)); walk1) | (walk_at "my bar"; (fail_if_success (with_reducible show wpAny _ _ (exec (Stmt.Assert _ _ _) _) _ _ _)); dsimp only; walk_at "my bar"; (fail_if_success (with_reducible show wpAny _ _ (exec (Stmt.Assert _ _ _) _) _ _ _)); walk1)))
local macro_rules | `(tactic| walk_at "subscriptTail Name Constant ref int") => `(tactic| (refine' item_litK ?k1 ?k2 ?k3 ?k4 ?_ ?k6; (case k4 => assumption); (case k1 => exact News.isList (by assumption) (by k_mem)); (case k2 => decide); (case k3 => decide); (case k6 => with_unfolding_all rfl)))
theorem strVals_cons : ∀ {l : List (Str × Tok)} {a : Str} {r : List Str}, l.map (·.1) = a :: r → ∃ t l', strValues l = .str a t :: strValues l' ∧ l'.map (·.1) = r
  | [], _, _, h => by cases h
  | (x, t) :: l, a, r, h => by
    rw [List.map_cons] at h
    injection h with h1 h2
    exact ⟨t, l, by rw [← h1]; rfl, h2⟩
theorem strVals_snoc : ∀ {mid : List Str} {l : List (Str × Tok)} {b : Str}, l.map (·.1) = mid ++ [b] → ∃ t vs, strValues l = vs ++ [.str b t] ∧ StrsAre vs mid
  | [], l, b, h => by
    obtain ⟨t, l', e, h'⟩ := strVals_cons h
    have : l' = [] := by cases l' with | nil => rfl | cons _ _ => cases h'
    subst this
    exact ⟨t, [], e, .nil⟩
  | m :: mid, l, b, h => by
    obtain ⟨t, l', e, h'⟩ := strVals_cons (r := mid ++ [b]) h
    obtain ⟨t', vs, e', hs⟩ := strVals_snoc h'
    exact ⟨t', .str m t :: vs, by rw [e, e']; rfl, .cons _ _ hs⟩
local macro_rules | `(tactic| walk_at "subscriptTail Name UnaryOp ref int") => `(tactic| (refine' item_last ?k1 ?_ ?k6 ?k7; (case k1 => exact News.isList (by assumption) (by k_mem)); (case k6 => with_unfolding_all rfl); (case k7 => (intro _; with_unfolding_all rfl))))
local macro_rules | `(tactic| walk_at "call builtin:str.find") => `(tactic| ((with_reducible show wpAny _ _ (call (Value.builtin _) [_, _, _, _]) _ _ _); refine find4 (by omega) ?_))
theorem del_K {prog : Program} {w : World} {A : Around} {E : Value → Shared → Prop} {s : Shared} {h₀ : Heap} {L D : Addr} {m : Str → Option Value} {its : Array Value} {n k : Nat} {i : Int} {u : Tok} {Q : Unit → Shared → Prop} (F : Fr h₀ L s.heap m) (N : News h₀ L s.heap [(D, W.listOf its n)])
    (hfit : Builtin.List.listFitsIndex i = true) (hk : seqIndex? i its.size = some k) (hsz : its.size ≤ sizeLine)
    (h : ∀ h' n', Fr h₀ L h' m → News h₀ L h' [(D, W.listOf (its.eraseIdxIfInBounds k) n')] → Q () { s with heap := h' }) : wpAny (model prog w) A (delItem (.ref D) (.int i u)) Q E s := by
  have z := N _ (.head _)
  refine wpAny_delItem_plain (items := its) ⟨n, z.1⟩ hfit hk (fun h' hp hs => ?_) hsz
  obtain ⟨n', e⟩ := hp
  exact h h' n' (F.change hs z.2.1 z.2.2) (news_set (pre := []) (post := []) N (fun _ hp => nomatch hp) (fun _ hp => nomatch hp) hs e)
def runF (got : Str) : List Str → Nat → Nat → Bool
  | [], _, _ => true
  | w :: r, pos, e => if findF got w pos e < 0 then false else runF got r ((findF got w pos e).toNat + w.length) e
def ell3 (ws : List Str) (got : Str) (sp ep : Nat) : Bool := if sp ≤ ep then runF got ws sp ep else false
def ell2 (vs : List Str) (b got : Str) (sp : Nat) : Bool := if b.length = 0 then ell3 (vs ++ [b]) got sp got.length else if Txt.endswith got b then ell3 vs got sp (got.length - b.length) else false
def ellF (a : Str) (mid : List Str) (b got : Str) : Bool := if a.length = 0 then ell2 (a :: mid) b got 0 else if Txt.startswith got a then ell2 mid b got a.length else false
theorem findF_le {x y : Str} {lo hi : Nat} (h : ¬ findF x y lo hi < 0) : (findF x y lo hi).toNat + y.length ≤ hi ∧ (((findF x y lo hi).toNat : Nat) : Int) = findF x y lo hi := by
  unfold findF at h ⊢
  cases e : Builtin.Str.occurrences x y lo hi 1 with
  | nil => rw [e] at h; exact absurd (by decide) h
  | cons k r =>
    have := StrLaws.occ_spec x y lo hi 1 k (by rw [e]; exact .head _)
    dsimp only
    exact ⟨by simpa using this.1, by simp⟩
theorem erase_last (v0 : List Value) (x : Value) : (v0 ++ [x]).toArray.eraseIdxIfInBounds v0.length = v0.toArray := by
  unfold Array.eraseIdxIfInBounds
  rw [dif_pos (by simp)]
  simp [List.eraseIdx_append_of_length_le]
theorem strs_snoc : ∀ {vs : List Value} {ys : List Str} {b : Str} {t : Tok}, StrsAre vs ys → StrsAre (vs ++ [.str b t]) (ys ++ [b])
  | _, _, b, t, .nil => .cons b t .nil
  | _, _, b, t, .cons y u r => .cons y u (strs_snoc r)
theorem endswith_len {x y : Str} (h : Txt.endswith x y = true) : y.length ≤ x.length := by
  unfold Txt.endswith at h
  simp only [Bool.and_eq_true, decide_eq_true_eq] at h
  omega
variable {w : World} {mean : ExcName → Option Value} {mg mb : Str → Option Value} {base : Heap} {dp un : Nat} {fr : Option (List Env)} {gd : Option (List Code)} {s : Shared}
theorem c_ell (X₀ : (hd.heap_39 w.params).In base) (T₀ : Top hd.view_39 Lv mean mg mb base) (st : base.StaysIn s.heap) (hA : dp + 4 < recursionLimit) (hu : un + 40 < cLine)
   (want got : Str) (t1 t2 : Tok) (hw : want.length ≤ 1000) (hg : got.length ≤ 1000) (a b : Str) (mid : List Str) (ha : a.length ≤ 1000) (hb : b.length ≤ 1000) (hml : ∀ y ∈ mid, y.length ≤ 1000) (hmid : mid.length ≤ 10) (hsp : Txt.split want (Str.ofString "...") = a :: (mid ++ [b])) (hocc : (Builtin.Str.occurrences want (Str.ofString "...") 0 want.length 1).isEmpty = false) :
   wpAny (model Pr w) (Ar dp un fr gd) (call (.ref 21) [.str want t1, .str got t2]) (Post s fun v h' => v = .bool (ellF a mid b got)) (fun _ _ => False) s := by
  have X := X₀.keeps st
  have T := T₀.keeps st
  clear X₀ T₀ st
  refine' enter [(Str.ofString "want", .str want t1), (Str.ofString "got", .str got t2)] ?k1 ?k2 ?k3 ?k6 ?k7 ?k8 ?k9 ?kB ?_ ?c5 ?c2 ?c3 ?c4; (case k1 => k_asm); (case k2 => first | assumption | exact fun _ _ e => e); (case k3 => exact Top.nolimit (by assumption)); (case k6 => k_is); (case k7 => k_is); (case k8 => (dsimp only [Ar]; omega)); (case k9 => exact BindsTo.of_eq rfl); (case c5 => decide); (case kB => exact locs rfl); (case c2 => exact rfl); (case c3 => exact rfl); (case c4 => exact rfl); k_whole; intro h₁ F N; dsimp only [List.length, List.reverse, List.reverseAux]; k_fold
  walk_at "my go assert"
  rename List.map _ _ = Txt.split _ _ => hlk
  rename News _ _ _ _ => N
  rename Fr _ _ _ _ => F
  rename Heap.IsList _ _ _ => hIL
  rename StrsAre _ _ => hSA
  clear hIL hSA
  rw [hsp] at hlk
  obtain ⟨ta, l1, e1, hlk1⟩ := strVals_cons hlk
  obtain ⟨tb, vm, e2, hvm⟩ := strVals_snoc hlk1
  rw [e1, e2] at N
  have hlen := hvm.len_eq
  dsimp only at F N
  generalize hlw : h₁.objs.size = lw at *
  have hi0 : (Value.str a ta :: (vm ++ [Value.str b tb]))[(0 : Int).toNat]? = some (.str a ta) := rfl
  clear e1 e2 hlk hlk1
  have hszA : ((Value.str a ta :: (vm ++ [Value.str b tb])).toArray.size : Int) = (mid.length : Int) + 2 := by simp [hlen]; omega
  have hszB : (Value.str a ta :: (vm ++ [Value.str b tb])).toArray.size = mid.length + 2 := by simp [hlen]
  walk_at "my go"
  · -- a is there, and the text begins with it
    rename News _ _ _ _ => N
    rename Fr _ _ _ _ => F
    have N1 : News s.heap s.heap.objs.size _ [(lw, W.listOf (Value.str a ta :: (vm ++ [Value.str b tb])).toArray 0)] := news_cong N (by intro p hp; rw [List.mem_singleton.mp hp]; exact .tail _ (.head _))
    refine del_K F N1 (by decide) (k := 0) ?_ ?_ ?_
    · unfold seqIndex?
      simp
      omega
    · rw [hszB, sizeLine_eq]; omega
    clear N F N1
    intro h₂ n₂ F N
    have ee : (Value.str a ta :: (vm ++ [Value.str b tb])).toArray.eraseIdxIfInBounds 0 = (vm ++ [Value.str b tb]).toArray := by simp
    rw [ee] at N
    obtain ⟨sp, hsp0⟩ : ∃ sp, sp = a.length := ⟨_, rfl⟩
    obtain ⟨v0, hve⟩ : ∃ v0, v0 = vm := ⟨_, rfl⟩
    obtain ⟨m0, hme⟩ : ∃ m0, m0 = mid := ⟨_, rfl⟩
    have hell : ellF a mid b got = ell2 m0 b got sp := by rw [ellF, if_neg (by omega), if_pos (by assumption), hsp0, hme]
    rw [← hsp0] at F
    rw [← hve] at N
    have hv0 : StrsAre v0 m0 := by rw [hve, hme]; exact hvm
    have hm0 : ∀ y ∈ m0, y.length ≤ 1000 := by rw [hme]; exact hml
    have hm1 : m0.length ≤ 11 := by rw [hme]; omega
    clear ee hi0 hszA hszB hsp0
    walk_at "my go"
    · -- b is there, and the text ends with it
      rename News _ _ _ _ => N
      rename Fr _ _ _ _ => F
      rename Txt.endswith got b = true => hend
      have hbl : b.length ≤ got.length := endswith_len hend
      refine del_K F N (by decide) (k := v0.length) ?_ ?_ ?_
      · unfold seqIndex?
        simp
        omega
      · have := hv0.len_eq
        simp
        rw [sizeLine_eq]; omega
      clear N F
      intro h₂ n₃ F N
      obtain ⟨ep, hep⟩ : ∃ ep, ep = got.length - b.length := ⟨_, rfl⟩
      obtain ⟨vs, hvs⟩ : ∃ vs, vs = v0 := ⟨_, rfl⟩
      obtain ⟨ws, hwe⟩ : ∃ ws, ws = m0 := ⟨_, rfl⟩
      have e4 : ((got.length : Int) - (b.length : Int)) = (ep : Int) := by omega
      rw [e4] at F
      rw [erase_last, ← hvs] at N
      walk_at "my go"
      · show Post s (fun v h' => v = .bool (ellF a mid b got)) _ _
        refine Post.intro (by assumption) ?_
        rw [hell, ell2, if_neg (by omega), if_pos hend, ell3, ← hep, if_neg (by omega)]
      · have hws : StrsAre vs ws := by rw [hvs, hwe]; exact hv0
        have hwlen : ∀ y ∈ ws, y.length ≤ 1000 := by rw [hwe]; exact hm0
        have hspep : sp ≤ ep := by omega
        have hfin : ellF a mid b got = runF got ws sp ep := by rw [hell, ell2, if_neg (by omega), if_pos hend, ell3, ← hep, if_pos hspep, hwe]
        walk_at "my for"
        walk_at "my go"
        rename News _ _ _ _ => N9
        rename Fr _ _ _ _ => F9
        refine iter_lst (fun i m news => news = [] ∧ (∃ (sp' : Nat) (t : Tok), m (Str.ofString "startpos") = some (.int (sp' : Int) t) ∧ sp' ≤ ep ∧ runF got ws sp ep = runF got (ws.drop i) sp' ep) ∧ (∃ t, m (Str.ofString "endpos") = some (.int (ep : Int) t)) ∧ m (Str.ofString "got") = some (.str got t2)) rfl (News.isList N9 (.head _)) F9 News.nil (N9 _ (.head _)).2.1 (fun p hp => nomatch hp) ⟨rfl, ⟨sp, _, rfl, hspep, rfl⟩, ⟨_, rfl⟩, rfl⟩ ?_ ?_
        · intro i v m₁ news₁ h tk own hi hv ha ho hj F N
          obtain ⟨rfl, ⟨sp', tsp, hm1, hle, hrun⟩, ⟨te, hm2⟩, hm3⟩ := hj
          have hi2 : i < ws.length := by rw [← hws.len_eq]; simpa using hi
          obtain ⟨tv, hv'⟩ := hws.at (j := i) (y := ws[i]) (by simp [hi2])
          have ev : v = .str ws[i] tv := by
            have h1 : vs[i]? = some v := by simpa using hv
            rw [hv'] at h1
            exact (Option.some.inj h1).symm
          subst ev
          have hdrop : ws.drop i = ws[i] :: ws.drop (i + 1) := List.drop_eq_getElem_cons hi2
          have hwl : ws[i].length ≤ 1000 := hwlen _ (List.getElem_mem hi2)
          generalize ws[i] = y at *
          replace F : Fr s.heap s.heap.objs.size h _ := frAs (frAs (frAs F (Str.ofString "startpos") hm1) (Str.ofString "endpos") hm2) (Str.ofString "got") hm3
          replace N : News s.heap s.heap.objs.size h own := N
          rw [hdrop] at hrun
          clear hm1 hm2 hm3 ha ho hv hv' hi N9 F9
          walk_at "my go"
          · rename findF _ _ _ _ < 0 => hf
            show Post s (fun v h' => v = .bool (ellF a mid b got)) _ _
            refine Post.intro (by assumption) ?_
            simp only [runF] at hrun
            rw [if_pos hf] at hrun
            rw [hfin, hrun]
          · rename ¬ findF _ _ _ _ < 0 => hf
            obtain ⟨f1, f2⟩ := findF_le hf
            simp only [runF] at hrun
            rw [if_neg hf] at hrun
            have f3 : findF got y sp' ep + (y.length : Int) = (((findF got y sp' ep).toNat + y.length : Nat) : Int) := by omega
            rename Fr _ _ _ _ => F
            rw [f3] at F
            exact TPost.next [] F (by assumption) rfl ⟨rfl, ⟨(findF got y sp' ep).toNat + y.length, _, rfl, f1, hrun⟩, ⟨_, rfl⟩, rfl⟩
        · intro m₁ news₁ h tk hj ha F N
          obtain ⟨rfl, ⟨sp', tsp, hm1, hle, hrun⟩, ⟨te, hm2⟩, hm3⟩ := hj
          replace F : Fr s.heap s.heap.objs.size h _ := F
          walk_at "my go"
          refine Post.intro (by assumption) ?_
          have e9 : vs.toArray.size = ws.length := by simp [hws.len_eq]
          rw [e9, List.drop_length] at hrun
          rw [hfin, hrun]
          rfl
    · show Post s (fun v h' => v = .bool (ellF a mid b got)) _ _
      refine Post.intro (by assumption) ?_
      rw [hell, ell2, if_neg (by omega), if_neg (by simp [*])]
    · show Post s (fun v h' => v = .bool (ellF a mid b got)) _ _
      refine Post.intro (by assumption) ?_
      rw [hell, ell2, if_pos (by omega), ell3, if_neg (by omega)]
    · obtain ⟨ep, hep⟩ : ∃ ep, ep = got.length := ⟨_, rfl⟩
      obtain ⟨vs, hvs⟩ : ∃ vs, vs = v0 ++ [Value.str b tb] := ⟨_, rfl⟩
      obtain ⟨ws, hwe⟩ : ∃ ws, ws = m0 ++ [b] := ⟨_, rfl⟩
      rename News _ _ _ _ => N
      rename Fr _ _ _ _ => F
      rw [← hvs] at N
      rw [← hep] at F
      have hws : StrsAre vs ws := by rw [hvs, hwe]; exact strs_snoc hv0
      have hwlen : ∀ y ∈ ws, y.length ≤ 1000 := by
        rw [hwe]
        intro y hy
        rcases List.mem_append.mp hy with h1 | h1
        · exact hm0 y h1
        · rw [List.mem_singleton.mp h1]; exact hb
      have hspep : sp ≤ ep := by omega
      have hfin : ellF a mid b got = runF got ws sp ep := by rw [hell, ell2, if_pos (by omega), ell3, ← hep, if_pos hspep, hwe]
      walk_at "my for"
      walk_at "my go"
      rename News _ _ _ _ => N9
      rename Fr _ _ _ _ => F9
      refine iter_lst (fun i m news => news = [] ∧ (∃ (sp' : Nat) (t : Tok), m (Str.ofString "startpos") = some (.int (sp' : Int) t) ∧ sp' ≤ ep ∧ runF got ws sp ep = runF got (ws.drop i) sp' ep) ∧ (∃ t, m (Str.ofString "endpos") = some (.int (ep : Int) t)) ∧ m (Str.ofString "got") = some (.str got t2)) rfl (News.isList N9 (.head _)) F9 News.nil (N9 _ (.head _)).2.1 (fun p hp => nomatch hp) ⟨rfl, ⟨sp, _, rfl, hspep, rfl⟩, ⟨_, rfl⟩, rfl⟩ ?_ ?_
      · intro i v m₁ news₁ h tk own hi hv ha ho hj F N
        obtain ⟨rfl, ⟨sp', tsp, hm1, hle, hrun⟩, ⟨te, hm2⟩, hm3⟩ := hj
        have hi2 : i < ws.length := by rw [← hws.len_eq]; simpa using hi
        obtain ⟨tv, hv'⟩ := hws.at (j := i) (y := ws[i]) (by simp [hi2])
        have ev : v = .str ws[i] tv := by
          have h1 : vs[i]? = some v := by simpa using hv
          rw [hv'] at h1
          exact (Option.some.inj h1).symm
        subst ev
        have hdrop : ws.drop i = ws[i] :: ws.drop (i + 1) := List.drop_eq_getElem_cons hi2
        have hwl : ws[i].length ≤ 1000 := hwlen _ (List.getElem_mem hi2)
        generalize ws[i] = y at *
        replace F : Fr s.heap s.heap.objs.size h _ := frAs (frAs (frAs F (Str.ofString "startpos") hm1) (Str.ofString "endpos") hm2) (Str.ofString "got") hm3
        replace N : News s.heap s.heap.objs.size h own := N
        rw [hdrop] at hrun
        clear hm1 hm2 hm3 ha ho hv hv' hi N9 F9
        walk_at "my go"
        · rename findF _ _ _ _ < 0 => hf
          show Post s (fun v h' => v = .bool (ellF a mid b got)) _ _
          refine Post.intro (by assumption) ?_
          simp only [runF] at hrun
          rw [if_pos hf] at hrun
          rw [hfin, hrun]
        · rename ¬ findF _ _ _ _ < 0 => hf
          obtain ⟨f1, f2⟩ := findF_le hf
          simp only [runF] at hrun
          rw [if_neg hf] at hrun
          have f3 : findF got y sp' ep + (y.length : Int) = (((findF got y sp' ep).toNat + y.length : Nat) : Int) := by omega
          rename Fr _ _ _ _ => F
          rw [f3] at F
          exact TPost.next [] F (by assumption) rfl ⟨rfl, ⟨(findF got y sp' ep).toNat + y.length, _, rfl, f1, hrun⟩, ⟨_, rfl⟩, rfl⟩
      · intro m₁ news₁ h tk hj ha F N
        obtain ⟨rfl, ⟨sp', tsp, hm1, hle, hrun⟩, ⟨te, hm2⟩, hm3⟩ := hj
        replace F : Fr s.heap s.heap.objs.size h _ := F
        walk_at "my go"
        refine Post.intro (by assumption) ?_
        have e9 : vs.toArray.size = ws.length := by simp [hws.len_eq]
        rw [e9, List.drop_length] at hrun
        rw [hfin, hrun]
        rfl
  · show Post s (fun v h' => v = .bool (ellF a mid b got)) _ _
    refine Post.intro (by assumption) ?_
    unfold ellF
    rw [if_neg (by omega), if_neg (by simp [*])]
  · rename News _ _ _ _ => N
    rename Fr _ _ _ _ => F
    obtain ⟨sp, hsp0⟩ : ∃ sp, sp = 0 := ⟨_, rfl⟩
    have hzz : (0 : Int) = (sp : Int) := by omega
    rw [hzz] at F
    obtain ⟨v0, hve⟩ : ∃ v0, v0 = Value.str a ta :: vm := ⟨_, rfl⟩
    obtain ⟨m0, hme⟩ : ∃ m0, m0 = a :: mid := ⟨_, rfl⟩
    have hell : ellF a mid b got = ell2 m0 b got sp := by rw [ellF, if_pos (by omega), hsp0, hme]
    have hv0 : StrsAre v0 m0 := by rw [hve, hme]; exact .cons _ _ hvm
    have hm0 : ∀ y ∈ m0, y.length ≤ 1000 := by
      rw [hme]
      intro y hy
      rcases List.mem_cons.mp hy with h1 | h1
      · rw [h1]; exact ha
      · exact hml y h1
    have hm1 : m0.length ≤ 11 := by rw [hme, List.length_cons]; omega
    replace N := news_cong (b := [(lw, W.listOf (Value.str a ta :: (vm ++ [Value.str b tb])).toArray 0)]) N (by intro p hp; rw [List.mem_singleton.mp hp]; exact .tail _ (.head _))
    have ev0 : Value.str a ta :: (vm ++ [Value.str b tb]) = v0 ++ [Value.str b tb] := by rw [hve]; rfl
    rw [ev0] at N
    clear ev0
    clear hi0 hszA hszB hsp0 hzz
    walk_at "my go"
    · -- b is there, and the text ends with it
      rename News _ _ _ _ => N
      rename Fr _ _ _ _ => F
      rename Txt.endswith got b = true => hend
      have hbl : b.length ≤ got.length := endswith_len hend
      refine del_K F N (by decide) (k := v0.length) ?_ ?_ ?_
      · unfold seqIndex?
        simp
        omega
      · have := hv0.len_eq
        simp
        rw [sizeLine_eq]; omega
      clear N F
      intro h₂ n₃ F N
      obtain ⟨ep, hep⟩ : ∃ ep, ep = got.length - b.length := ⟨_, rfl⟩
      obtain ⟨vs, hvs⟩ : ∃ vs, vs = v0 := ⟨_, rfl⟩
      obtain ⟨ws, hwe⟩ : ∃ ws, ws = m0 := ⟨_, rfl⟩
      have e4 : ((got.length : Int) - (b.length : Int)) = (ep : Int) := by omega
      rw [e4] at F
      rw [erase_last, ← hvs] at N
      walk_at "my go"
      · show Post s (fun v h' => v = .bool (ellF a mid b got)) _ _
        refine Post.intro (by assumption) ?_
        rw [hell, ell2, if_neg (by omega), if_pos hend, ell3, ← hep, if_neg (by omega)]
      · have hws : StrsAre vs ws := by rw [hvs, hwe]; exact hv0
        have hwlen : ∀ y ∈ ws, y.length ≤ 1000 := by rw [hwe]; exact hm0
        have hspep : sp ≤ ep := by omega
        have hfin : ellF a mid b got = runF got ws sp ep := by rw [hell, ell2, if_neg (by omega), if_pos hend, ell3, ← hep, if_pos hspep, hwe]
        walk_at "my for"
        walk_at "my go"
        rename News _ _ _ _ => N9
        rename Fr _ _ _ _ => F9
        refine iter_lst (fun i m news => news = [] ∧ (∃ (sp' : Nat) (t : Tok), m (Str.ofString "startpos") = some (.int (sp' : Int) t) ∧ sp' ≤ ep ∧ runF got ws sp ep = runF got (ws.drop i) sp' ep) ∧ (∃ t, m (Str.ofString "endpos") = some (.int (ep : Int) t)) ∧ m (Str.ofString "got") = some (.str got t2)) rfl (News.isList N9 (.head _)) F9 News.nil (N9 _ (.head _)).2.1 (fun p hp => nomatch hp) ⟨rfl, ⟨sp, _, rfl, hspep, rfl⟩, ⟨_, rfl⟩, rfl⟩ ?_ ?_
        · intro i v m₁ news₁ h tk own hi hv ha ho hj F N
          obtain ⟨rfl, ⟨sp', tsp, hm1, hle, hrun⟩, ⟨te, hm2⟩, hm3⟩ := hj
          have hi2 : i < ws.length := by rw [← hws.len_eq]; simpa using hi
          obtain ⟨tv, hv'⟩ := hws.at (j := i) (y := ws[i]) (by simp [hi2])
          have ev : v = .str ws[i] tv := by
            have h1 : vs[i]? = some v := by simpa using hv
            rw [hv'] at h1
            exact (Option.some.inj h1).symm
          subst ev
          have hdrop : ws.drop i = ws[i] :: ws.drop (i + 1) := List.drop_eq_getElem_cons hi2
          have hwl : ws[i].length ≤ 1000 := hwlen _ (List.getElem_mem hi2)
          generalize ws[i] = y at *
          replace F : Fr s.heap s.heap.objs.size h _ := frAs (frAs (frAs F (Str.ofString "startpos") hm1) (Str.ofString "endpos") hm2) (Str.ofString "got") hm3
          replace N : News s.heap s.heap.objs.size h own := N
          rw [hdrop] at hrun
          clear hm1 hm2 hm3 ha ho hv hv' hi N9 F9
          walk_at "my go"
          · rename findF _ _ _ _ < 0 => hf
            show Post s (fun v h' => v = .bool (ellF a mid b got)) _ _
            refine Post.intro (by assumption) ?_
            simp only [runF] at hrun
            rw [if_pos hf] at hrun
            rw [hfin, hrun]
          · rename ¬ findF _ _ _ _ < 0 => hf
            obtain ⟨f1, f2⟩ := findF_le hf
            simp only [runF] at hrun
            rw [if_neg hf] at hrun
            have f3 : findF got y sp' ep + (y.length : Int) = (((findF got y sp' ep).toNat + y.length : Nat) : Int) := by omega
            rename Fr _ _ _ _ => F
            rw [f3] at F
            exact TPost.next [] F (by assumption) rfl ⟨rfl, ⟨(findF got y sp' ep).toNat + y.length, _, rfl, f1, hrun⟩, ⟨_, rfl⟩, rfl⟩
        · intro m₁ news₁ h tk hj ha F N
          obtain ⟨rfl, ⟨sp', tsp, hm1, hle, hrun⟩, ⟨te, hm2⟩, hm3⟩ := hj
          replace F : Fr s.heap s.heap.objs.size h _ := F
          walk_at "my go"
          refine Post.intro (by assumption) ?_
          have e9 : vs.toArray.size = ws.length := by simp [hws.len_eq]
          rw [e9, List.drop_length] at hrun
          rw [hfin, hrun]
          rfl
    · show Post s (fun v h' => v = .bool (ellF a mid b got)) _ _
      refine Post.intro (by assumption) ?_
      rw [hell, ell2, if_neg (by omega), if_neg (by simp [*])]
    · show Post s (fun v h' => v = .bool (ellF a mid b got)) _ _
      refine Post.intro (by assumption) ?_
      rw [hell, ell2, if_pos (by omega), ell3, if_neg (by omega)]
    · obtain ⟨ep, hep⟩ : ∃ ep, ep = got.length := ⟨_, rfl⟩
      obtain ⟨vs, hvs⟩ : ∃ vs, vs = v0 ++ [Value.str b tb] := ⟨_, rfl⟩
      obtain ⟨ws, hwe⟩ : ∃ ws, ws = m0 ++ [b] := ⟨_, rfl⟩
      rename News _ _ _ _ => N
      rename Fr _ _ _ _ => F
      rw [← hvs] at N
      rw [← hep] at F
      have hws : StrsAre vs ws := by rw [hvs, hwe]; exact strs_snoc hv0
      have hwlen : ∀ y ∈ ws, y.length ≤ 1000 := by
        rw [hwe]
        intro y hy
        rcases List.mem_append.mp hy with h1 | h1
        · exact hm0 y h1
        · rw [List.mem_singleton.mp h1]; exact hb
      have hspep : sp ≤ ep := by omega
      have hfin : ellF a mid b got = runF got ws sp ep := by rw [hell, ell2, if_pos (by omega), ell3, ← hep, if_pos hspep, hwe]
      walk_at "my for"
      walk_at "my go"
      rename News _ _ _ _ => N9
      rename Fr _ _ _ _ => F9
      refine iter_lst (fun i m news => news = [] ∧ (∃ (sp' : Nat) (t : Tok), m (Str.ofString "startpos") = some (.int (sp' : Int) t) ∧ sp' ≤ ep ∧ runF got ws sp ep = runF got (ws.drop i) sp' ep) ∧ (∃ t, m (Str.ofString "endpos") = some (.int (ep : Int) t)) ∧ m (Str.ofString "got") = some (.str got t2)) rfl (News.isList N9 (.head _)) F9 News.nil (N9 _ (.head _)).2.1 (fun p hp => nomatch hp) ⟨rfl, ⟨sp, _, rfl, hspep, rfl⟩, ⟨_, rfl⟩, rfl⟩ ?_ ?_
      · intro i v m₁ news₁ h tk own hi hv ha ho hj F N
        obtain ⟨rfl, ⟨sp', tsp, hm1, hle, hrun⟩, ⟨te, hm2⟩, hm3⟩ := hj
        have hi2 : i < ws.length := by rw [← hws.len_eq]; simpa using hi
        obtain ⟨tv, hv'⟩ := hws.at (j := i) (y := ws[i]) (by simp [hi2])
        have ev : v = .str ws[i] tv := by
          have h1 : vs[i]? = some v := by simpa using hv
          rw [hv'] at h1
          exact (Option.some.inj h1).symm
        subst ev
        have hdrop : ws.drop i = ws[i] :: ws.drop (i + 1) := List.drop_eq_getElem_cons hi2
        have hwl : ws[i].length ≤ 1000 := hwlen _ (List.getElem_mem hi2)
        generalize ws[i] = y at *
        replace F : Fr s.heap s.heap.objs.size h _ := frAs (frAs (frAs F (Str.ofString "startpos") hm1) (Str.ofString "endpos") hm2) (Str.ofString "got") hm3
        replace N : News s.heap s.heap.objs.size h own := N
        rw [hdrop] at hrun
        clear hm1 hm2 hm3 ha ho hv hv' hi N9 F9
        walk_at "my go"
        · rename findF _ _ _ _ < 0 => hf
          show Post s (fun v h' => v = .bool (ellF a mid b got)) _ _
          refine Post.intro (by assumption) ?_
          simp only [runF] at hrun
          rw [if_pos hf] at hrun
          rw [hfin, hrun]
        · rename ¬ findF _ _ _ _ < 0 => hf
          obtain ⟨f1, f2⟩ := findF_le hf
          simp only [runF] at hrun
          rw [if_neg hf] at hrun
          have f3 : findF got y sp' ep + (y.length : Int) = (((findF got y sp' ep).toNat + y.length : Nat) : Int) := by omega
          rename Fr _ _ _ _ => F
          rw [f3] at F
          exact TPost.next [] F (by assumption) rfl ⟨rfl, ⟨(findF got y sp' ep).toNat + y.length, _, rfl, f1, hrun⟩, ⟨_, rfl⟩, rfl⟩
      · intro m₁ news₁ h tk hj ha F N
        obtain ⟨rfl, ⟨sp', tsp, hm1, hle, hrun⟩, ⟨te, hm2⟩, hm3⟩ := hj
        replace F : Fr s.heap s.heap.objs.size h _ := F
        walk_at "my go"
        refine Post.intro (by assumption) ?_
        have e9 : vs.toArray.size = ws.length := by simp [hws.len_eq]
        rw [e9, List.drop_length] at hrun
        rw [hfin, hrun]
        rfl

end
section
local macro_rules | `(tactic| walk_at "binaryOp Mod float float") => `(tactic| (refine AutoFloatOps.mod_1 (by decide +kernel) ?_; dsimp only [Made.post]))
local macro_rules | `(tactic| walk_at "my bar") => `(tactic| (
  (fail_if_success (with_reducible show wpAny _ _ (pyIter _) _ _ _)); (fail_if_success (with_reducible show wpAny _ _ (exec (Stmt.For _ _ _ _ _) _) _ _ _)); (fail_if_success (with_reducible show wpAny _ _ (eval (Expr.ListComp _ _ _ _) _) _ _ _)); (fail_if_success (with_reducible show wpAny _ _ (exec (Stmt.Assign _ (Expr.ListComp _ _ _ _) _) _) _ _ _))))
local macro_rules | `(tactic| walk_at "my go") => `(tactic| repeat' (first | (k_unfold; (try dsimp only)) | (walk_at "my bar"; walk1) | (walk_at "my bar"; dsimp only; walk_at "my bar"; walk1)))
local macro_rules | `(tactic| walk_at "my for") => `(tactic| (refine' forV ?k1 ?k2 ?k3 ?k4 ?_; (case k1 => k_asm); (case k2 => rfl); (case k3 => rfl); (case k4 => (intro _; rfl)); (try k_fold)))
local macro_rules | `(tactic| walk_at "eval Name") => `(tactic| (refine' Sees.at ?k1 ?k2 ?_ ?k3; (case k1 => assumption); (case k2 => assumption); (case k3 => decide)))
local macro_rules | `(tactic| walk_at "binaryOp Div int float") => `(tactic| (refine AutoFloatOps.truediv_if_2 (Float64.ofInt_fits (by assumption)) (by decide +kernel) ?_; dsimp only [Made.post]))
local macro_rules | `(tactic| walk_at "call ref") => `(tactic| ((with_reducible show wpAny _ _ (call (Value.ref 35) _) _ _ _); refine' useK ?k1 ?k2 (c_v ?k3 ?k4 ?k5 ?k6 _ _ _ _ _ _) ?_; (case k1 => k_asm); (case k2 => k_asm); (case k3 => k_asm); (case k4 => assumption); (case k5 => exact Fr.keep (by k_asm)); (case k6 => (dsimp only [Ar, Around.deeper]; omega)); intro v' h' tk' K' F' N' P'; obtain ⟨t', P'⟩ := P'; subst P'; (try k_sweep)))
local macro_rules | `(tactic| walk_at "call type:int") => `(tactic| ((with_reducible show wpAny _ _ (call (Value.type "int") [Value.float _ _]) _ _ _); refine int_fin (by assumption) ?_))
local macro_rules | `(tactic| walk_at "binaryOp Sub float int") => `(tactic| ((with_reducible show wpAny _ _ (binaryOp Operator.Sub (Value.float _ _) (Value.int _ _)) _ _ _); refine sub_fi_fits (by assumption) ?_))
local macro_rules | `(tactic| walk_at "call ref") => `(tactic| ((with_reducible show wpAny _ _ (call (Value.ref 42) _) _ _ _); refine' useS ?k1 (c_hsv ?k3 ?k4 ?k1 ?k6 _ _ _ _ _ _ ?k7 ?k8) ?_; (case k1 => assumption); (case k3 => assumption); (case k4 => assumption); (case k6 => (dsimp only [Ar, Around.deeper]; omega)); (case k7 => assumption); (case k8 => assumption); intro v' h' tk' st' P'; (have X' := Frag.In.keeps (by assumption) st'); obtain ⟨l', t1', t2', t3', P', hl'⟩ := P'; subst P'))
local macro_rules | `(tactic| walk_at "call ref") => `(tactic| ((with_reducible show wpAny _ _ (call (Value.ref 28) _) _ _ _); refine' useS ?k1 (c_hls ?k3 ?k4 ?k1 ?k6 _ _ _ _ _ _) ?_; (case k1 => assumption); (case k3 => assumption); (case k4 => assumption); (case k6 => (dsimp only [Ar, Around.deeper]; omega)); intro v' h' tk' st' P'; (have X' := Frag.In.keeps (by assumption) st'); obtain ⟨l', t1', t2', t3', P', hl'⟩ := P'; subst P'))
local macro_rules | `(tactic| walk_at "call ref") => `(tactic| ((with_reducible show wpAny _ _ (call (Value.ref 49) _) _ _ _); refine' useS ?k1 (c_sign ?k3 ?k4 ?k1 ?k6 _ _ _ _ _ _ _ ?k7 ?k8 ?k9 ?k10) ?_; (case k1 => assumption); (case k3 => assumption); (case k4 => assumption); (case k6 => (dsimp only [Ar, Around.deeper]; omega)); (case k7 => assumption); (case k8 => assumption); (case k9 => assumption); (case k10 => assumption); intro v' h' tk' st' P'; (have X' := Frag.In.keeps (by assumption) st'); obtain ⟨t', P'⟩ := P'; subst P'))
local macro_rules | `(tactic| walk_at "subscriptTail Name Name ref int") => `(tactic| (refine' item_litK ?k1 ?k2 ?k3 ?k4 ?_ ?k6; (case k4 => assumption); (case k1 => (refine' lst_up ?a1 ?a2; (case a1 => assumption); (case a2 => assumption))); (case k2 => omega); (case k3 => omega); (case k6 => with_unfolding_all rfl)))
local macro_rules | `(tactic| walk_at "truthy str") => `(tactic| refine P.truthy_str (by omega) ?_)
local macro_rules | `(tactic| walk_at "my go assert") => `(tactic| repeat' (first | (k_unfold; (try dsimp only)) | (walk_at "my bar"; (fail_if_success (with_reducible show wpAny _ _ (exec (Stmt.Assert _ _ _) _) _ _ _)); walk1) | (walk_at "my bar"; (fail_if_success (with_reducible show wpAny _ _ (exec (Stmt.Assert _ _ _) _) _ _ _)); dsimp only; walk_at "my bar"; (fail_if_success (with_reducible show wpAny _ _ (exec (Stmt.Assert _ _ _) _) _ _ _)); walk1)))
local macro_rules | `(tactic| walk_at "subscriptTail Name Constant ref int") => `(tactic| (refine' item_litK ?k1 ?k2 ?k3 ?k4 ?_ ?k6; (case k4 => assumption); (case k1 => exact News.isList (by assumption) (by k_mem)); (case k2 => decide); (case k3 => decide); (case k6 => with_unfolding_all rfl)))
local macro_rules | `(tactic| walk_at "subscriptTail Name UnaryOp ref int") => `(tactic| (refine' item_last ?k1 ?_ ?k6 ?k7; (case k1 => exact News.isList (by assumption) (by k_mem)); (case k6 => with_unfolding_all rfl); (case k7 => (intro _; with_unfolding_all rfl))))
local macro_rules | `(tactic| walk_at "call builtin:str.find") => `(tactic| ((with_reducible show wpAny _ _ (call (Value.builtin _) [_, _, _, _]) _ _ _); refine find4 (by omega) ?_))
section
variable {prog : Program} {w : World} {A : Around} {E : Value → Shared → Prop} {s s₂ : Shared} {env : Env} {h₀ : Heap} {target : Expr} {body : List Stmt} {Q : Flow → Shared → Prop}
def TNext (h₀ : Heap) (L : Addr) (J : (Str → Option Value) → List (Addr × Obj) → Prop) (own : List (Addr × Obj)) (adr : List Addr) (s₁ : Shared) (f : Flow) (s₂ : Shared) : Prop := f = .next ∧ TEnd h₀ L J own adr s₁ s₂
theorem TNext.intro {L : Addr} {J : (Str → Option Value) → List (Addr × Obj) → Prop} {own : List (Addr × Obj)} {adr : List Addr} {s₁ : Shared} {h' : Heap} {tk : Nat} {m' : Str → Option Value} (news' : List (Addr × Obj)) (F : Fr h₀ L h' m') (N : News h₀ L h' (news' ++ own)) (ha : news'.map (·.1) = adr) (j : J m' news') :
    TNext h₀ L J own adr s₁ .next { s₁ with heap := h', toks := tk } := ⟨rfl, h', tk, m', news', rfl, F, N, ha, j⟩
theorem iter_lstT {ax : Addr} {items : Array Value} {m₀ : Str → Option Value} {news : List (Addr × Obj)} (J : Nat → (Str → Option Value) → List (Addr × Obj) → Prop) (hh : A.handled = none) (hl : s.heap.IsList ax items)
    (F : Fr h₀ env.locals s.heap m₀) (N : News h₀ env.locals s.heap news) (hax : ax ≠ env.locals) (hoff : ∀ p ∈ news, p.1 ≠ ax) (hj : J 0 m₀ news)
    (turn : ∀ i v m₁ news₁ (s₁ : Shared) own, i < items.size → items[i]? = some v → news₁.map (·.1) = news.map (·.1) → OwnOff own (news.map (·.1)) → J i m₁ news₁ → Fr h₀ env.locals s₁.heap m₁ → News h₀ env.locals s₁.heap (news₁ ++ own) →
      wpAny (model prog w) A (assign target env v) (fun _ s₃ => wpAny (model prog w) A (execs body env) (TNext h₀ env.locals (J (i + 1)) own (news.map (·.1)) s₁) E s₃) E s₁)
    (done : ∀ m₁ news₁ h tk, J items.size m₁ news₁ → news₁.map (·.1) = news.map (·.1) → Fr h₀ env.locals h m₁ → News h₀ env.locals h news₁ → Q .next { s with heap := h, toks := tk }) :
    wpAny (model prog w) A (pyIter (.ref ax)) (fun it s₂ => LoopAtT prog w A h₀ env target body Q E it s₂) E s := by
  have hlt : ax < s.heap.objs.size := by obtain ⟨_, e, _⟩ := hl; exact Heap.lt_size e
  refine wpAny_pyIter_list hl ?_
  have hoff' : ∀ (l : List (Addr × Obj)), l.map (·.1) = news.map (·.1) → ∀ p ∈ l, p.1 ∉ [s.heap.objs.size, ax] := fun l e p hp hq => by
    have h1 : p.1 ∈ l.map (·.1) := List.mem_map.mpr ⟨p, hp, rfl⟩
    rw [e] at h1
    obtain ⟨q, hq1, hq2⟩ := List.mem_map.mp h1
    rw [← hq2] at hq
    rcases List.mem_cons.mp hq with e | hm
    · exact absurd (Heap.lt_size (N q hq1).1) (e ▸ Nat.lt_irrefl _)
    · exact hoff q hq1 (List.mem_singleton.mp hm)
  refine ⟨s.heap.objs.size, [s.heap.objs.size, ax], [s.heap.objs.size], items.size, _, _, m₀, news, (fun i m₁ news₁ => news₁.map (·.1) = news.map (·.1) ∧ J i m₁ news₁), rfl, Walks.list hh s.heap.objs.size ax (Nat.ne_of_lt hlt) items, ?_, ?_, ?_,
    ⟨⟨_, Heap.get?_push_size _ rfl, rfl, rfl⟩, hl.at fun o e => Heap.get?_push_of_some _ e⟩, F.push _, (fun p hp => ⟨Heap.get?_push_of_some _ (N p hp).1, (N p hp).2⟩), (fun i s' v Q' st hQ' => letGo_listiter st.1 hQ'), ⟨rfl, hj⟩, ?_, ?_⟩
  · intro hm
    rcases List.mem_cons.mp hm with e | hm
    · exact absurd F.ns.lt (e ▸ Nat.lt_irrefl _)
    · exact hax (List.mem_singleton.mp hm).symm
  · intro b hb; rw [List.mem_singleton.mp hb]; exact next_is_new F
  · intro p hp hq; exact hoff' news rfl p hp (by rw [List.mem_singleton.mp hq]; exact .head _)
  · rintro i v m₁ news₁ s₁ own hin hP ⟨hadr, hJ⟩ hno hown _ _ _ F₁ N₁
    have hsep : OwnOff own (news.map (·.1)) := by
      intro p hp b hb e
      obtain ⟨q, hq, rfl⟩ := List.mem_map.mp hb
      exact hoff' news rfl q hq (e ▸ hown p hp)
    have N₂ : News h₀ env.locals s₁.heap (news₁ ++ own) := fun p hp => N₁ p ((List.mem_append.mp hp).elim (fun h => List.mem_append.mpr (.inr h)) fun h => List.mem_append.mpr (.inl h))
    refine wpAny_mono (turn i v m₁ news₁ s₁ own hin hP hadr hsep hJ F₁ N₂) (fun _ s₃ q => wpAny_mono q (fun f s₄ p => ?_) fun _ _ e => e) fun _ _ e => e
    obtain ⟨rfl, h', tk', m', nx, e, F', N', ha, hm⟩ := p
    refine ⟨rfl, h', tk', m', nx, e, F', fun p hp => N' p ((List.mem_append.mp hp).elim (fun h => List.mem_append.mpr (.inr h)) fun h => List.mem_append.mpr (.inl h)), fun p hp hq => ?_, ha, hm⟩
    exact hoff' nx ha p hp (by rw [List.mem_singleton.mp hq]; exact .head _)
  · rintro h' tk m' news' F' N' _ ⟨ha, hJ⟩
    exact done m' news' h' tk hJ ha F' N'
end
theorem forT {prog : Program} {w : World} {A : Around} {s : Shared} {env : Env} {h₀ : Heap} {target iter : Expr} {body : List Stmt} {Q : Flow → Shared → Prop} {pos : Pos} {m : Str → Option Value} (_F : Fr h₀ env.locals s.heap m)
    (hs : ∀ x, foldedSetIterable iter env x = pure x)
    (h : wpAny (model prog w) A (eval iter env) (fun xv s₁ => wpAny (model prog w) A (pyIter xv) (fun it s₂ => LoopAtT prog w A h₀ env target body Q (fun _ _ => False) it s₂) (fun _ _ => False) s₁) (fun _ _ => False) s) :
    wpAny (model prog w) A (exec (.For target iter body [] pos) env) Q (fun _ _ => False) s := For_invT h₀ h hs PassesOwn.never

end
section
local macro_rules | `(tactic| walk_at "binaryOp Mod float float") => `(tactic| (refine AutoFloatOps.mod_1 (by decide +kernel) ?_; dsimp only [Made.post]))
local macro_rules | `(tactic| walk_at "my bar") => `(tactic| (
  (fail_if_success (with_reducible show wpAny _ _ (pyIter _) _ _ _)); (fail_if_success (with_reducible show wpAny _ _ (exec (Stmt.For _ _ _ _ _) _) _ _ _)); (fail_if_success (with_reducible show wpAny _ _ (eval (Expr.ListComp _ _ _ _) _) _ _ _)); (fail_if_success (with_reducible show wpAny _ _ (exec (Stmt.Assign _ (Expr.ListComp _ _ _ _) _) _) _ _ _))))
local macro_rules | `(tactic| walk_at "my go") => `(tactic| repeat' (first | (k_unfold; (try dsimp only)) | (walk_at "my bar"; walk1) | (walk_at "my bar"; dsimp only; walk_at "my bar"; walk1)))
local macro_rules | `(tactic| walk_at "my for") => `(tactic| (refine' forV ?k1 ?k2 ?k3 ?k4 ?_; (case k1 => k_asm); (case k2 => rfl); (case k3 => rfl); (case k4 => (intro _; rfl)); (try k_fold)))
local macro_rules | `(tactic| walk_at "eval Name") => `(tactic| (refine' Sees.at ?k1 ?k2 ?_ ?k3; (case k1 => assumption); (case k2 => assumption); (case k3 => decide)))
local macro_rules | `(tactic| walk_at "binaryOp Div int float") => `(tactic| (refine AutoFloatOps.truediv_if_2 (Float64.ofInt_fits (by assumption)) (by decide +kernel) ?_; dsimp only [Made.post]))
local macro_rules | `(tactic| walk_at "call ref") => `(tactic| ((with_reducible show wpAny _ _ (call (Value.ref 35) _) _ _ _); refine' useK ?k1 ?k2 (c_v ?k3 ?k4 ?k5 ?k6 _ _ _ _ _ _) ?_; (case k1 => k_asm); (case k2 => k_asm); (case k3 => k_asm); (case k4 => assumption); (case k5 => exact Fr.keep (by k_asm)); (case k6 => (dsimp only [Ar, Around.deeper]; omega)); intro v' h' tk' K' F' N' P'; obtain ⟨t', P'⟩ := P'; subst P'; (try k_sweep)))
local macro_rules | `(tactic| walk_at "call type:int") => `(tactic| ((with_reducible show wpAny _ _ (call (Value.type "int") [Value.float _ _]) _ _ _); refine int_fin (by assumption) ?_))
local macro_rules | `(tactic| walk_at "binaryOp Sub float int") => `(tactic| ((with_reducible show wpAny _ _ (binaryOp Operator.Sub (Value.float _ _) (Value.int _ _)) _ _ _); refine sub_fi_fits (by assumption) ?_))
local macro_rules | `(tactic| walk_at "call ref") => `(tactic| ((with_reducible show wpAny _ _ (call (Value.ref 42) _) _ _ _); refine' useS ?k1 (c_hsv ?k3 ?k4 ?k1 ?k6 _ _ _ _ _ _ ?k7 ?k8) ?_; (case k1 => assumption); (case k3 => assumption); (case k4 => assumption); (case k6 => (dsimp only [Ar, Around.deeper]; omega)); (case k7 => assumption); (case k8 => assumption); intro v' h' tk' st' P'; (have X' := Frag.In.keeps (by assumption) st'); obtain ⟨l', t1', t2', t3', P', hl'⟩ := P'; subst P'))
local macro_rules | `(tactic| walk_at "call ref") => `(tactic| ((with_reducible show wpAny _ _ (call (Value.ref 28) _) _ _ _); refine' useS ?k1 (c_hls ?k3 ?k4 ?k1 ?k6 _ _ _ _ _ _) ?_; (case k1 => assumption); (case k3 => assumption); (case k4 => assumption); (case k6 => (dsimp only [Ar, Around.deeper]; omega)); intro v' h' tk' st' P'; (have X' := Frag.In.keeps (by assumption) st'); obtain ⟨l', t1', t2', t3', P', hl'⟩ := P'; subst P'))
local macro_rules | `(tactic| walk_at "call ref") => `(tactic| ((with_reducible show wpAny _ _ (call (Value.ref 49) _) _ _ _); refine' useS ?k1 (c_sign ?k3 ?k4 ?k1 ?k6 _ _ _ _ _ _ _ ?k7 ?k8 ?k9 ?k10) ?_; (case k1 => assumption); (case k3 => assumption); (case k4 => assumption); (case k6 => (dsimp only [Ar, Around.deeper]; omega)); (case k7 => assumption); (case k8 => assumption); (case k9 => assumption); (case k10 => assumption); intro v' h' tk' st' P'; (have X' := Frag.In.keeps (by assumption) st'); obtain ⟨t', P'⟩ := P'; subst P'))
local macro_rules | `(tactic| walk_at "subscriptTail Name Name ref int") => `(tactic| (refine' item_litK ?k1 ?k2 ?k3 ?k4 ?_ ?k6; (case k4 => assumption); (case k1 => (refine' lst_up ?a1 ?a2; (case a1 => assumption); (case a2 => assumption))); (case k2 => omega); (case k3 => omega); (case k6 => with_unfolding_all rfl)))
local macro_rules | `(tactic| walk_at "truthy str") => `(tactic| refine P.truthy_str (by omega) ?_)
local macro_rules | `(tactic| walk_at "my go assert") => `(tactic| repeat' (first | (k_unfold; (try dsimp only)) | (walk_at "my bar"; (fail_if_success (with_reducible show wpAny _ _ (exec (Stmt.Assert _ _ _) _) _ _ _)); walk1) | (walk_at "my bar"; (fail_if_success (with_reducible show wpAny _ _ (exec (Stmt.Assert _ _ _) _) _ _ _)); dsimp only; walk_at "my bar"; (fail_if_success (with_reducible show wpAny _ _ (exec (Stmt.Assert _ _ _) _) _ _ _)); walk1)))
local macro_rules | `(tactic| walk_at "subscriptTail Name Constant ref int") => `(tactic| (refine' item_litK ?k1 ?k2 ?k3 ?k4 ?_ ?k6; (case k4 => assumption); (case k1 => exact News.isList (by assumption) (by k_mem)); (case k2 => decide); (case k3 => decide); (case k6 => with_unfolding_all rfl)))
local macro_rules | `(tactic| walk_at "subscriptTail Name UnaryOp ref int") => `(tactic| (refine' item_last ?k1 ?_ ?k6 ?k7; (case k1 => exact News.isList (by assumption) (by k_mem)); (case k6 => with_unfolding_all rfl); (case k7 => (intro _; with_unfolding_all rfl))))
local macro_rules | `(tactic| walk_at "call builtin:str.find") => `(tactic| ((with_reducible show wpAny _ _ (call (Value.builtin _) [_, _, _, _]) _ _ _); refine find4 (by omega) ?_))
section
variable {prog : Program} {w : World} {A : Around} {E : Value → Shared → Prop} {s : Shared} {env : Env}
/-- one turn of a comprehension over a list: the target is stored, the element reckoned; what it made is told -/
def CStep (prog : Program) (w : World) (A : Around) (env : Env) (target elt : Expr) (scope : Scope) (cl : List (Str × Addr)) (items : Array Value) (G : Nat → Value → List (Addr × Obj) → Prop) (h₁ : Heap) : Prop :=
  ∀ C (i : Nat) v s₃ m₃ cenv, cenv = compEnvC scope cl C env → items[i]? = some v → s₃.heap.Ns C m₃ → h₁.StaysIn s₃.heap → h₁.get? C = none →
    wpAny (model prog w) A (assign target cenv v) (fun _ s₄ => wpAny (model prog w) A (eval elt cenv) (fun y s₅ => ∃ h' tk m₅ made, s₅ = { s₃ with heap := h', toks := tk } ∧ h'.Ns C m₅ ∧ (∀ b o, b ≠ C → s₃.heap.get? b = some o → h'.get? b = some o) ∧
      (∀ p ∈ made, s₃.heap.get? p.1 = none ∧ h'.get? p.1 = some p.2) ∧ G i y made) (fun _ _ => False) s₄) (fun _ _ => False) s₃
theorem comp_loopA {elt target iter : Expr} {scope : Scope} {cl : List (Str × Addr)} {pos : Pos} {s₂ : Shared} {I ax D C : Addr} {items : Array Value} {R : Result → Shared → Prop} {m : Str → Option Value} {h₁ : Heap} (G : Nat → Value → List (Addr × Obj) → Prop)
    (hmono : ∀ i y a b, (∀ p ∈ a, p ∈ b) → G i y a → G i y b) (hh : A.handled = none) (hne : ax ≠ I) (hDC : D ≠ C) (hDI : D ≠ I) (hCI : C ≠ I) (hCx : C ≠ ax) (hDx : D ≠ ax) (hC : h₁.get? C = none) (hD : h₁.get? D = none) (hI : h₁.get? I = none)
    (hit : s₂.heap.IsListIter I ax 0) (hl : s₂.heap.IsList ax items) (hacc : s₂.heap.PlainList D #[]) (hn : s₂.heap.Ns C m) (hst : h₁.StaysIn s₂.heap) (hsz : items.size ≤ sizeLine)
    (step : CStep prog w A env target elt scope cl items G h₁)
    (hR : ∀ h' tk m' ys tr, h'.Ns C m' → h'.PlainList D ys → ys.size = items.size → (∀ p ∈ tr, h₁.get? p.1 = none ∧ h'.get? p.1 = some p.2 ∧ p.1 ≠ C ∧ p.1 ≠ D) → (∀ i, i < items.size → ∃ y, ys[i]? = some y ∧ G i y tr) → h₁.StaysIn h' → R (.ok .next) { s₂ with heap := h', toks := tk }) :
    codeAny (model prog w) A (.compLoop (.ListComp elt [⟨target, iter, [], 0⟩] scope pos) 0 (.ref I) (.ref D) (compEnvC scope cl C env)) R s₂ := by
  refine kcp_loop (fun k s' => ∃ h' tk m' ys tr i, s' = { s₂ with heap := h', toks := tk } ∧ h'.IsListIter I ax i ∧ h'.IsList ax items ∧ h'.PlainList D ys ∧ h'.Ns C m' ∧ ys.size = i ∧ (∀ p ∈ tr, h₁.get? p.1 = none ∧ h'.get? p.1 = some p.2 ∧ p.1 ≠ C ∧ p.1 ≠ D ∧ p.1 ≠ I) ∧
      (∀ j, j < i → ∃ y, ys[j]? = some y ∧ G j y tr) ∧ i ≤ items.size ∧ k = items.size + 1 - i ∧ h₁.StaysIn h') ?_ (items.size + 1)
    ⟨s₂.heap, s₂.toks, m, #[], [], 0, rfl, hit, hl, hacc, hn, rfl, (fun p hp => nomatch hp), (fun j hj => absurd hj (Nat.not_lt_zero _)), Nat.zero_le _, rfl, hst⟩
  rintro k s' ⟨h', tk, m', ys, tr, i, rfl, hit', hl', hacc', hn', hys, htr, hG, hi, rfl, hst'⟩
  by_cases hlt : i < items.size
  · refine wpAny_pyNext_list_item hit' hl' (x := items[i]) (by simp [hlt]) fun h₂ hit₂ hs₂ => ?_
    dsimp only
    refine letGo_listiter hit₂ ?_
    have up₂ : h₁.StaysIn h₂ := fun b o e => hs₂.extBut b o (fun q => by rw [q, hI] at e; cases e) (hst' b o e)
    refine wpAny_mono (step C i items[i] { s₂ with heap := h₂, toks := tk } m' _ rfl (by simp [hlt]) (hn'.sameBut hs₂ hCI) up₂ hC) (fun _ s₄ q => wpAny_mono q (fun y s₅ p => ?_) fun _ _ e => e.elim) fun _ _ e => e.elim
    obtain ⟨h₃, tk₃, m₅, made, rfl, hn₅, hk₃, hmade, hg⟩ := p
    obtain ⟨n, hDo⟩ := hacc'
    have hD₃ : h₃.get? D = some { cls := .type "list", data := .seq ys n } := hk₃ D _ hDC (hs₂.extBut D _ hDI hDo)
    refine append_at hD₃ (fun h₄ hs₄ hD₄ => ?_) (by rw [hys]; exact Nat.le_trans hi hsz)
    have mem₄ : ∀ p ∈ made, p.1 ≠ D ∧ p.1 ≠ C ∧ p.1 ≠ I := fun p hp => by
      have h0 := (hmade p hp).1
      refine ⟨fun q => ?_, fun q => ?_, fun q => ?_⟩
      · rw [q, show ({ s₂ with heap := h₂, toks := tk } : Shared).heap = h₂ from rfl, hs₂.extBut D _ hDI hDo] at h0; cases h0
      · obtain ⟨o, _, _, ho, _⟩ := hn'.sameBut hs₂ hCI
        rw [q, show ({ s₂ with heap := h₂, toks := tk } : Shared).heap = h₂ from rfl, ho] at h0; cases h0
      · obtain ⟨o, ho, _⟩ := hit₂
        rw [q, show ({ s₂ with heap := h₂, toks := tk } : Shared).heap = h₂ from rfl, ho] at h0; cases h0
    refine ⟨items.size + 1 - (i + 1), by omega, h₄, tk₃, m₅, ys.push y, made ++ tr, i + 1, rfl, ?_, ?_, ⟨n + 1, hD₄⟩, hn₅.sameBut hs₄ (Ne.symm hDC), by rw [Array.size_push, hys], ?_, ?_, hlt, rfl, ?_⟩
    · obtain ⟨o, ho, r⟩ := hit₂
      exact ⟨o, hs₄.extBut I o (Ne.symm hDI) (hk₃ I o (Ne.symm hCI) ho), r⟩
    · obtain ⟨o, ho, r⟩ := hl'
      exact ⟨o, hs₄.extBut ax o (Ne.symm hDx) (hk₃ ax o (Ne.symm hCx) (hs₂.extBut ax o hne ho)), r⟩
    · intro p hp
      rcases List.mem_append.mp hp with h5 | h5
      · obtain ⟨q1, q2, q3⟩ := mem₄ p h5
        refine ⟨?_, hs₄.extBut _ _ q1 (hmade p h5).2, q2, q1, q3⟩
        cases e : h₁.get? p.1 with
        | none => rfl
        | some o => have := (hmade p h5).1; rw [show ({ s₂ with heap := h₂, toks := tk } : Shared).heap = h₂ from rfl, up₂ _ _ e] at this; cases this
      · obtain ⟨q0, q1, q2, q3, q4⟩ := htr p h5
        exact ⟨q0, hs₄.extBut _ _ q3 (hk₃ _ _ q2 (hs₂.extBut _ _ q4 q1)), q2, q3, q4⟩
    · intro j hj
      by_cases q : j < i
      · obtain ⟨z, hz, gz⟩ := hG j q
        exact ⟨z, by rw [Array.getElem?_push_lt (by omega), ← hz]; exact (Array.getElem?_eq_getElem (by omega)).symm, hmono _ _ _ _ (fun p hp => List.mem_append_right _ hp) gz⟩
      · have e : j = i := by omega
        subst e
        exact ⟨y, by rw [← hys]; exact Array.getElem?_push_size, hmono _ _ _ _ (fun p hp => List.mem_append_left _ hp) hg⟩
    · intro b o e
      exact hs₄.extBut b o (fun q => by rw [q, hD] at e; cases e) (hk₃ b o (fun q => by rw [q, hC] at e; cases e) (up₂ b o e))
  · have hin : i = items.size := by omega
    subst hin
    refine wpAny_pyNext_list_end hh hit' hl' (by simp) fun h₂ he₂ => ?_
    dsimp only
    refine hR h₂ tk m' ys tr (hn'.at' fun o e => he₂ _ o hCI e) ?_ hys ?_ hG ?_
    · obtain ⟨n, e⟩ := hacc'
      exact ⟨n, he₂ D _ hDI e⟩
    · intro p hp
      obtain ⟨q0, q1, q2, q3, q4⟩ := htr p hp
      exact ⟨q0, he₂ _ _ q4 q1, q2, q3⟩
    · intro b o e
      exact he₂ b o (fun q => by rw [q, hI] at e; cases e) (hst' b o e)
end
section
variable {prog : Program} {w : World} {A : Around} {E : Value → Shared → Prop} {s : Shared} {env : Env} {h₀ : Heap}
def CA (prog : Program) (w : World) (A : Around) (env : Env) (h₀ : Heap) (y : Str) (target elt : Expr) (scope : Scope) (cl : List (Str × Addr)) (G : Nat → Value → List (Addr × Obj) → Prop) (Q : Flow → Shared → Prop) (xv : Value) (s₁ : Shared) : Prop :=
  ∃ ax items m news, xv = .ref ax ∧ s₁.heap.IsList ax items ∧ items.size ≤ sizeLine ∧ Fr h₀ env.locals s₁.heap m ∧ News h₀ env.locals s₁.heap news ∧ CStep prog w A env target elt scope cl items G s₁.heap ∧
    ∀ D n ys tr h' tk, Fr h₀ env.locals h' (fun z => if z = y then some (.ref D) else m z) → News h₀ env.locals h' ((D, W.listOf ys n) :: (tr ++ news)) → (∀ p ∈ tr ++ news, p.1 ≠ D) → (∀ p ∈ tr, ∀ q ∈ news, p.1 ≠ q.1) → ys.size = items.size → (∀ i, i < items.size → ∃ v, ys[i]? = some v ∧ G i v tr) → Q .next { s₁ with heap := h', toks := tk }
theorem CA.intro {y : Str} {target elt : Expr} {scope : Scope} {cl : List (Str × Addr)} {G : Nat → Value → List (Addr × Obj) → Prop} {Q : Flow → Shared → Prop} {s₁ : Shared} {ax : Addr} {items : Array Value} {m : Str → Option Value} {news : List (Addr × Obj)}
    (hl : s₁.heap.IsList ax items) (hsz : items.size ≤ sizeLine) (F : Fr h₀ env.locals s₁.heap m) (N : News h₀ env.locals s₁.heap news) (step : CStep prog w A env target elt scope cl items G s₁.heap)
    (done : ∀ D n ys tr h' tk, Fr h₀ env.locals h' (fun z => if z = y then some (.ref D) else m z) → News h₀ env.locals h' ((D, W.listOf ys n) :: (tr ++ news)) → (∀ p ∈ tr ++ news, p.1 ≠ D) → (∀ p ∈ tr, ∀ q ∈ news, p.1 ≠ q.1) → ys.size = items.size → (∀ i, i < items.size → ∃ v, ys[i]? = some v ∧ G i v tr) → Q .next { s₁ with heap := h', toks := tk }) :
    CA prog w A env h₀ y target elt scope cl G Q (.ref ax) s₁ := ⟨ax, items, m, news, rfl, hl, hsz, F, N, step, done⟩
theorem assign_comp {elt target iter : Expr} {y : Str} {py : Pos} {scope : Scope} {cl : List (Str × Addr)} {pos spos : Pos} {Q : Flow → Shared → Prop} (G : Nat → Value → List (Addr × Obj) → Prop) (hmono : ∀ i y a b, (∀ p ∈ a, p ∈ b) → G i y a → G i y b) (hh : A.handled = none)
    (hsw : swapsWith (.ListComp elt [⟨target, iter, [], 0⟩] scope pos) (some (.Name y py)) spos.line env = pure true)
    (hclos : closureFor scope env = pure cl) (hcell : ∀ z ∈ scope.names, z.2 ≠ .cell) (hkind : scope.kind = .function)
    (hnames : ∀ z ∈ scope.names, z.2 = .local → scope.names.lookup z.1 = some .local)
    (hy : env.kindOf y = some .local) (hp : (env.scope.kind == .class || (env.scope.kind == .module && env.locals != env.globals)) = false)
    (hs : ∀ x, foldedSetIterable iter env x = pure x)
    (h : wpAny (model prog w) A (eval iter env) (CA prog w A env h₀ y target elt scope cl G Q) E s) :
    wpAny (model prog w) A (exec (.Assign [.Name y py] (.ListComp elt [⟨target, iter, [], 0⟩] scope pos) spos) env) Q E s := by
  rw [exec_Assign_Name_used _ _ _ _ hsw]
  refine wpAny_bind (wpAny_standAt (wpAny_bind ?_))
  show wpAny _ A (do let _ ← comprehension (.ListComp elt [⟨target, iter, [], 0⟩] scope pos) scope env _ (newList []) false (eval iter env) (some (assign (.Name y py) env))) _ _ s
  refine wpAny_bind (wpAny_mono (wpAny_comprehension_free (use := some (assign (.Name y py) env)) (Q := fun _ s' => Q .next s') rfl hs hclos hkind hnames
    (wpAny_mono h (fun xv s₁ h₁ => ?_) fun _ _ e => e)) (fun _ s' hq => wpAny_pure (wpAny_pure hq)) fun _ _ e => e)
  obtain ⟨ax, items, m, news, rfl, hl, hsz, F, N, step, done⟩ := h₁
  have hlt : ax < s₁.heap.objs.size := by obtain ⟨_, e, _⟩ := hl; exact Heap.lt_size e
  have hltN := ltN hlt
  refine wpAny_pyIter_list hl ?_
  refine wpAny_newObj_type (wpAny_newFunctionEnv hcell (by intro z hz; simp at hz) (fun h₂ hns₂ hsb₂ => ?_) hkind)
  dsimp only at hns₂ hsb₂ ⊢
  generalize hHI : s₁.heap.push { cls := .type "list_iterator", data := .fields #[.ref ax, .int 0 0] } = HI at hns₂ hsb₂ ⊢
  have sI : HI.objs.size = s₁.heap.objs.size + 1 := by rw [← hHI, Heap.size_push]
  generalize hHD : HI.push { cls := .type "list", dict := none, data := .seq ([] : List Value).toArray } = HD at hns₂ hsb₂ ⊢
  have sD : HD.objs.size = s₁.heap.objs.size + 2 := by rw [← hHD, Heap.size_push, sI]
  have up1 : s₁.heap.StaysIn HI := fun b o e => by rw [← hHI]; exact Heap.get?_push_of_some _ e
  have up2 : HI.StaysIn HD := fun b o e => by rw [← hHD]; exact Heap.get?_push_of_some _ e
  have old : ∀ b o, HD.get? b = some o → h₂.get? b = some o := fun b o e => hsb₂.extBut b o (Nat.ne_of_lt (Heap.lt_size e)) (Heap.get?_push_of_some _ e)
  have fresh : ∀ a, s₁.heap.objs.size ≤ a → s₁.heap.get? a = none := fun a ha => by
    cases e : s₁.heap.get? a with
    | none => rfl
    | some o' => exact absurd (Heap.lt_size e) (Nat.not_lt.mpr ha)
  have hitI : HI.get? s₁.heap.objs.size = some { cls := .type "list_iterator", data := .fields #[.ref ax, .int 0 0] } := by rw [← hHI]; exact Heap.get?_push_size _ rfl
  have hitD : HD.get? HI.objs.size = some { cls := .type "list", dict := none, data := .seq ([] : List Value).toArray } := by rw [← hHD]; exact Heap.get?_push_size _ rfl
  have loop : codeAny (model prog w) A (.compLoop (.ListComp elt [⟨target, iter, [], 0⟩] scope pos) 0 (.ref s₁.heap.objs.size) (.ref HI.objs.size) (compEnvC scope cl HD.objs.size env))
      (compPost (model prog w) A E (some (assign (.Name y py) env)) (fun _ s' => Q .next s') (.ref HI.objs.size) HD.objs.size) { s₁ with heap := h₂, toks := s₁.toks + ([] : List (Str × Value)).length } := by
    refine comp_loopA (s₂ := { s₁ with heap := h₂, toks := s₁.toks + ([] : List (Str × Value)).length }) (h₁ := s₁.heap) G hmono hh (Nat.ne_of_lt hlt) (neN (by omega)) (neN (by omega)) (neN (by omega)) (neN (by omega)) (neN (by omega)) (fresh _ (by omega)) (fresh _ (by omega)) (fresh _ (Nat.le_refl _))
      ⟨_, old _ _ (up2 _ _ hitI), rfl, rfl⟩ (hl.at fun o e => old _ _ (up2 _ _ (up1 _ _ e))) ⟨_, old _ _ hitD⟩ hns₂ (fun b o e => old _ _ (up2 _ _ (up1 _ _ e))) hsz step ?_
    intro h' tk m' ys tr hnC hpl hys htr hG hk
    have hLlt := ltN F.ns.lt
    have hLC : env.locals ≠ HD.objs.size := neN (by omega)
    have hLD : env.locals ≠ HI.objs.size := neN (by omega)
    have hnL : h'.Ns env.locals m := F.ns.keeps hk
    show wpAny _ A (assign (.Name y py) env (.ref HI.objs.size)) _ _ _
    refine wpAny_assign_Name (wpAny_storeName_local hy hnL (fun h₃ hn₃ hs₃ => ?_) hp)
    refine ⟨m', hnC.sameBut hs₃ (Ne.symm hLC), fun h₄ hs₄ => ?_⟩
    obtain ⟨n, hDo⟩ := hpl
    have toL : ∀ b o, s₁.heap.get? b = some o → b ≠ env.locals → h₄.get? b = some o := fun b o e hb => hs₄.extBut b o (fun q => by rw [q, fresh _ (by omega)] at e; cases e) (hs₃.extBut b o hb (hk b o e))
    have trL : ∀ p ∈ tr, p.1 ≠ env.locals := fun p hp q => by
      have h0 := (htr p hp).1
      obtain ⟨o, _, _, ho, _⟩ := F.ns
      rw [q, ho] at h0; cases h0
    refine done HI.objs.size n ys tr h₄ _ ⟨hn₃.sameBut hs₄ hLC, fun b o e => toL b o (F.keep b o e) (Nat.ne_of_lt (Nat.lt_of_lt_of_le (Heap.lt_size e) F.above)), F.above⟩ ?_ ?_ ?_ hys hG
    · intro p hp
      rcases List.mem_cons.mp hp with rfl | hp
      · exact ⟨hs₄.extBut _ _ (neN (by omega)) (hs₃.extBut _ _ (Ne.symm hLD) hDo), Ne.symm hLD, none_of F.keep (fresh _ (by omega))⟩
      · rcases List.mem_append.mp hp with h5 | h5
        · obtain ⟨q0, q1, q2, q3⟩ := htr p h5
          exact ⟨hs₄.extBut _ _ q2 (hs₃.extBut _ _ (trL p h5) q1), trL p h5, none_of F.keep q0⟩
        · exact ⟨toL _ _ (N p h5).1 (N p h5).2.1, (N p h5).2⟩
    · intro p hp
      rcases List.mem_append.mp hp with h5 | h5
      · exact (htr p h5).2.2.2
      · exact neN (by have := ltN (Heap.lt_size (N p h5).1); omega)
    · intro p hp q hq e
      have h0 := (htr p hp).1
      rw [e, (N q hq).1] at h0
      cases h0
  exact codeAny_compStart_list loop (wpAny_pyIter_listiter ⟨_, old _ _ (up2 _ _ hitI), rfl, rfl⟩ loop)
end

end
section
local macro_rules | `(tactic| walk_at "binaryOp Mod float float") => `(tactic| (refine AutoFloatOps.mod_1 (by decide +kernel) ?_; dsimp only [Made.post]))
local macro_rules | `(tactic| walk_at "my bar") => `(tactic| (
  (fail_if_success (with_reducible show wpAny _ _ (pyIter _) _ _ _)); (fail_if_success (with_reducible show wpAny _ _ (exec (Stmt.For _ _ _ _ _) _) _ _ _)); (fail_if_success (with_reducible show wpAny _ _ (eval (Expr.ListComp _ _ _ _) _) _ _ _)); (fail_if_success (with_reducible show wpAny _ _ (exec (Stmt.Assign _ (Expr.ListComp _ _ _ _) _) _) _ _ _))))
local macro_rules | `(tactic| walk_at "my go") => `(tactic| repeat' (first | (k_unfold; (try dsimp only)) | (walk_at "my bar"; walk1) | (walk_at "my bar"; dsimp only; walk_at "my bar"; walk1)))
local macro_rules | `(tactic| walk_at "my for") => `(tactic| (refine' forV ?k1 ?k2 ?k3 ?k4 ?_; (case k1 => k_asm); (case k2 => rfl); (case k3 => rfl); (case k4 => (intro _; rfl)); (try k_fold)))
local macro_rules | `(tactic| walk_at "eval Name") => `(tactic| (refine' Sees.at ?k1 ?k2 ?_ ?k3; (case k1 => assumption); (case k2 => assumption); (case k3 => decide)))
local macro_rules | `(tactic| walk_at "binaryOp Div int float") => `(tactic| (refine AutoFloatOps.truediv_if_2 (Float64.ofInt_fits (by assumption)) (by decide +kernel) ?_; dsimp only [Made.post]))
local macro_rules | `(tactic| walk_at "call ref") => `(tactic| ((with_reducible show wpAny _ _ (call (Value.ref 35) _) _ _ _); refine' useK ?k1 ?k2 (c_v ?k3 ?k4 ?k5 ?k6 _ _ _ _ _ _) ?_; (case k1 => k_asm); (case k2 => k_asm); (case k3 => k_asm); (case k4 => assumption); (case k5 => exact Fr.keep (by k_asm)); (case k6 => (dsimp only [Ar, Around.deeper]; omega)); intro v' h' tk' K' F' N' P'; obtain ⟨t', P'⟩ := P'; subst P'; (try k_sweep)))
local macro_rules | `(tactic| walk_at "call type:int") => `(tactic| ((with_reducible show wpAny _ _ (call (Value.type "int") [Value.float _ _]) _ _ _); refine int_fin (by assumption) ?_))
local macro_rules | `(tactic| walk_at "binaryOp Sub float int") => `(tactic| ((with_reducible show wpAny _ _ (binaryOp Operator.Sub (Value.float _ _) (Value.int _ _)) _ _ _); refine sub_fi_fits (by assumption) ?_))
local macro_rules | `(tactic| walk_at "call ref") => `(tactic| ((with_reducible show wpAny _ _ (call (Value.ref 42) _) _ _ _); refine' useS ?k1 (c_hsv ?k3 ?k4 ?k1 ?k6 _ _ _ _ _ _ ?k7 ?k8) ?_; (case k1 => assumption); (case k3 => assumption); (case k4 => assumption); (case k6 => (dsimp only [Ar, Around.deeper]; omega)); (case k7 => assumption); (case k8 => assumption); intro v' h' tk' st' P'; (have X' := Frag.In.keeps (by assumption) st'); obtain ⟨l', t1', t2', t3', P', hl'⟩ := P'; subst P'))
local macro_rules | `(tactic| walk_at "call ref") => `(tactic| ((with_reducible show wpAny _ _ (call (Value.ref 28) _) _ _ _); refine' useS ?k1 (c_hls ?k3 ?k4 ?k1 ?k6 _ _ _ _ _ _) ?_; (case k1 => assumption); (case k3 => assumption); (case k4 => assumption); (case k6 => (dsimp only [Ar, Around.deeper]; omega)); intro v' h' tk' st' P'; (have X' := Frag.In.keeps (by assumption) st'); obtain ⟨l', t1', t2', t3', P', hl'⟩ := P'; subst P'))
local macro_rules | `(tactic| walk_at "call ref") => `(tactic| ((with_reducible show wpAny _ _ (call (Value.ref 49) _) _ _ _); refine' useS ?k1 (c_sign ?k3 ?k4 ?k1 ?k6 _ _ _ _ _ _ _ ?k7 ?k8 ?k9 ?k10) ?_; (case k1 => assumption); (case k3 => assumption); (case k4 => assumption); (case k6 => (dsimp only [Ar, Around.deeper]; omega)); (case k7 => assumption); (case k8 => assumption); (case k9 => assumption); (case k10 => assumption); intro v' h' tk' st' P'; (have X' := Frag.In.keeps (by assumption) st'); obtain ⟨t', P'⟩ := P'; subst P'))
local macro_rules | `(tactic| walk_at "subscriptTail Name Name ref int") => `(tactic| (refine' item_litK ?k1 ?k2 ?k3 ?k4 ?_ ?k6; (case k4 => assumption); (case k1 => (refine' lst_up ?a1 ?a2; (case a1 => assumption); (case a2 => assumption))); (case k2 => omega); (case k3 => omega); (case k6 => with_unfolding_all rfl)))
local macro_rules | `(tactic| walk_at "truthy str") => `(tactic| refine P.truthy_str (by omega) ?_)
local macro_rules | `(tactic| walk_at "my go assert") => `(tactic| repeat' (first | (k_unfold; (try dsimp only)) | (walk_at "my bar"; (fail_if_success (with_reducible show wpAny _ _ (exec (Stmt.Assert _ _ _) _) _ _ _)); walk1) | (walk_at "my bar"; (fail_if_success (with_reducible show wpAny _ _ (exec (Stmt.Assert _ _ _) _) _ _ _)); dsimp only; walk_at "my bar"; (fail_if_success (with_reducible show wpAny _ _ (exec (Stmt.Assert _ _ _) _) _ _ _)); walk1)))
local macro_rules | `(tactic| walk_at "subscriptTail Name Constant ref int") => `(tactic| (refine' item_litK ?k1 ?k2 ?k3 ?k4 ?_ ?k6; (case k4 => assumption); (case k1 => exact News.isList (by assumption) (by k_mem)); (case k2 => decide); (case k3 => decide); (case k6 => with_unfolding_all rfl)))
local macro_rules | `(tactic| walk_at "subscriptTail Name UnaryOp ref int") => `(tactic| (refine' item_last ?k1 ?_ ?k6 ?k7; (case k1 => exact News.isList (by assumption) (by k_mem)); (case k6 => with_unfolding_all rfl); (case k7 => (intro _; with_unfolding_all rfl))))
local macro_rules | `(tactic| walk_at "call builtin:str.find") => `(tactic| ((with_reducible show wpAny _ _ (call (Value.builtin _) [_, _, _, _]) _ _ _); refine find4 (by omega) ?_))
theorem assign3 {prog : Program} {w : World} {A : Around} {E : Value → Shared → Prop} {s : Shared} {env : Env} {a b c : Str} {pa pb pc tp : Pos} {kk : Nat} {T : Addr} {x y z : Value} {m : Str → Option Value} {Q : Unit → Shared → Prop} (hh : A.handled = none) (ht : s.heap.IsTuple T #[x, y, z])
    (ha : env.kindOf a = some .local) (hb : env.kindOf b = some .local) (hc : env.kindOf c = some .local) (hp : (env.scope.kind == .class || (env.scope.kind == .module && env.locals != env.globals)) = false) (hn : s.heap.Ns env.locals m)
    (h : ∀ (h' : Heap) (tk : Nat), h'.Ns env.locals (fun u => if u = c then some z else if u = b then some y else if u = a then some x else m u) → (∀ q o, q ≠ env.locals → s.heap.get? q = some o → h'.get? q = some o) → Q () { s with heap := h', toks := tk }) :
    wpAny (model prog w) A (assign (.Tuple [.Name a pa, .Name b pb, .Name c pc] kk tp) env (.ref T)) Q E s := by
  refine wpAny_assign_Tuple hh ht rfl rfl fun h₁ he₁ => ?_
  have hL : env.locals ≠ s.heap.objs.size := Nat.ne_of_lt hn.lt
  have hn₁ : h₁.Ns env.locals m := hn.at' fun o e => he₁ _ o hL e
  have up₁ : ∀ q o, s.heap.get? q = some o → h₁.get? q = some o := fun q o e => he₁ q o (Nat.ne_of_lt (Heap.lt_size e)) e
  show wpAny _ _ (assignInOrder [assign (.Name a pa) env, assign (.Name b pb) env, assign (.Name c pc) env] [x, y, z]) _ _ _
  refine assignInOrder_cons ?_
  refine wpAny_assign_Name (wpAny_storeName_local ha hn₁ (fun h₂ hn₂ hs₂ => ?_) hp)
  refine assignInOrder_cons ?_
  refine wpAny_assign_Name (wpAny_storeName_local hb hn₂ (fun h₃ hn₃ hs₃ => ?_) hp)
  refine assignInOrder_cons ?_
  refine wpAny_assign_Name (wpAny_storeName_local hc hn₃ (fun h₄ hn₄ hs₄ => ?_) hp)
  refine assignInOrder_nil ?_
  exact h h₄ _ hn₄ fun q o hq e => hs₄.extBut q o hq (hs₃.extBut q o hq (hs₂.extBut q o hq (up₁ q o e)))

end
section
local macro_rules | `(tactic| walk_at "binaryOp Mod float float") => `(tactic| (refine AutoFloatOps.mod_1 (by decide +kernel) ?_; dsimp only [Made.post]))
local macro_rules | `(tactic| walk_at "my bar") => `(tactic| (
  (fail_if_success (with_reducible show wpAny _ _ (pyIter _) _ _ _)); (fail_if_success (with_reducible show wpAny _ _ (exec (Stmt.For _ _ _ _ _) _) _ _ _)); (fail_if_success (with_reducible show wpAny _ _ (eval (Expr.ListComp _ _ _ _) _) _ _ _)); (fail_if_success (with_reducible show wpAny _ _ (exec (Stmt.Assign _ (Expr.ListComp _ _ _ _) _) _) _ _ _))))
local macro_rules | `(tactic| walk_at "my go") => `(tactic| repeat' (first | (k_unfold; (try dsimp only)) | (walk_at "my bar"; walk1) | (walk_at "my bar"; dsimp only; walk_at "my bar"; walk1)))
local macro_rules | `(tactic| walk_at "my for") => `(tactic| (refine' forV ?k1 ?k2 ?k3 ?k4 ?_; (case k1 => k_asm); (case k2 => rfl); (case k3 => rfl); (case k4 => (intro _; rfl)); (try k_fold)))
local macro_rules | `(tactic| walk_at "eval Name") => `(tactic| (refine' Sees.at ?k1 ?k2 ?_ ?k3; (case k1 => assumption); (case k2 => assumption); (case k3 => decide)))
local macro_rules | `(tactic| walk_at "binaryOp Div int float") => `(tactic| (refine AutoFloatOps.truediv_if_2 (Float64.ofInt_fits (by assumption)) (by decide +kernel) ?_; dsimp only [Made.post]))
local macro_rules | `(tactic| walk_at "call ref") => `(tactic| ((with_reducible show wpAny _ _ (call (Value.ref 35) _) _ _ _); refine' useK ?k1 ?k2 (c_v ?k3 ?k4 ?k5 ?k6 _ _ _ _ _ _) ?_; (case k1 => k_asm); (case k2 => k_asm); (case k3 => k_asm); (case k4 => assumption); (case k5 => exact Fr.keep (by k_asm)); (case k6 => (dsimp only [Ar, Around.deeper]; omega)); intro v' h' tk' K' F' N' P'; obtain ⟨t', P'⟩ := P'; subst P'; (try k_sweep)))
local macro_rules | `(tactic| walk_at "call type:int") => `(tactic| ((with_reducible show wpAny _ _ (call (Value.type "int") [Value.float _ _]) _ _ _); refine int_fin (by assumption) ?_))
local macro_rules | `(tactic| walk_at "binaryOp Sub float int") => `(tactic| ((with_reducible show wpAny _ _ (binaryOp Operator.Sub (Value.float _ _) (Value.int _ _)) _ _ _); refine sub_fi_fits (by assumption) ?_))
local macro_rules | `(tactic| walk_at "call ref") => `(tactic| ((with_reducible show wpAny _ _ (call (Value.ref 42) _) _ _ _); refine' useS ?k1 (c_hsv ?k3 ?k4 ?k1 ?k6 _ _ _ _ _ _ ?k7 ?k8) ?_; (case k1 => assumption); (case k3 => assumption); (case k4 => assumption); (case k6 => (dsimp only [Ar, Around.deeper]; omega)); (case k7 => assumption); (case k8 => assumption); intro v' h' tk' st' P'; (have X' := Frag.In.keeps (by assumption) st'); obtain ⟨l', t1', t2', t3', P', hl'⟩ := P'; subst P'))
local macro_rules | `(tactic| walk_at "call ref") => `(tactic| ((with_reducible show wpAny _ _ (call (Value.ref 28) _) _ _ _); refine' useS ?k1 (c_hls ?k3 ?k4 ?k1 ?k6 _ _ _ _ _ _) ?_; (case k1 => assumption); (case k3 => assumption); (case k4 => assumption); (case k6 => (dsimp only [Ar, Around.deeper]; omega)); intro v' h' tk' st' P'; (have X' := Frag.In.keeps (by assumption) st'); obtain ⟨l', t1', t2', t3', P', hl'⟩ := P'; subst P'))
local macro_rules | `(tactic| walk_at "call ref") => `(tactic| ((with_reducible show wpAny _ _ (call (Value.ref 49) _) _ _ _); refine' useS ?k1 (c_sign ?k3 ?k4 ?k1 ?k6 _ _ _ _ _ _ _ ?k7 ?k8 ?k9 ?k10) ?_; (case k1 => assumption); (case k3 => assumption); (case k4 => assumption); (case k6 => (dsimp only [Ar, Around.deeper]; omega)); (case k7 => assumption); (case k8 => assumption); (case k9 => assumption); (case k10 => assumption); intro v' h' tk' st' P'; (have X' := Frag.In.keeps (by assumption) st'); obtain ⟨t', P'⟩ := P'; subst P'))
local macro_rules | `(tactic| walk_at "subscriptTail Name Name ref int") => `(tactic| (refine' item_litK ?k1 ?k2 ?k3 ?k4 ?_ ?k6; (case k4 => assumption); (case k1 => (refine' lst_up ?a1 ?a2; (case a1 => assumption); (case a2 => assumption))); (case k2 => omega); (case k3 => omega); (case k6 => with_unfolding_all rfl)))
local macro_rules | `(tactic| walk_at "truthy str") => `(tactic| refine P.truthy_str (by omega) ?_)
local macro_rules | `(tactic| walk_at "my go assert") => `(tactic| repeat' (first | (k_unfold; (try dsimp only)) | (walk_at "my bar"; (fail_if_success (with_reducible show wpAny _ _ (exec (Stmt.Assert _ _ _) _) _ _ _)); walk1) | (walk_at "my bar"; (fail_if_success (with_reducible show wpAny _ _ (exec (Stmt.Assert _ _ _) _) _ _ _)); dsimp only; walk_at "my bar"; (fail_if_success (with_reducible show wpAny _ _ (exec (Stmt.Assert _ _ _) _) _ _ _)); walk1)))
local macro_rules | `(tactic| walk_at "subscriptTail Name Constant ref int") => `(tactic| (refine' item_litK ?k1 ?k2 ?k3 ?k4 ?_ ?k6; (case k4 => assumption); (case k1 => exact News.isList (by assumption) (by k_mem)); (case k2 => decide); (case k3 => decide); (case k6 => with_unfolding_all rfl)))
local macro_rules | `(tactic| walk_at "subscriptTail Name UnaryOp ref int") => `(tactic| (refine' item_last ?k1 ?_ ?k6 ?k7; (case k1 => exact News.isList (by assumption) (by k_mem)); (case k6 => with_unfolding_all rfl); (case k7 => (intro _; with_unfolding_all rfl))))
local macro_rules | `(tactic| walk_at "call builtin:str.find") => `(tactic| ((with_reducible show wpAny _ _ (call (Value.builtin _) [_, _, _, _]) _ _ _); refine find4 (by omega) ?_))
local macro_rules | `(tactic| walk_at "subscriptTail Name BinOp ref int") => `(tactic| (refine' item_litK ?k1 ?k2 ?k3 ?k4 ?_ ?k6; (case k4 => assumption); (case k1 => assumption); (case k2 => omega); (case k3 => omega); (case k6 => with_unfolding_all rfl)))
local macro_rules | `(tactic| walk_at "binaryOp Add ref ref") => `(tactic| (refine' add_arrays ?k1 ?k2 ?k3 ?k4 ?_ ?k5; (case k1 => k_asm); (case k2 => k_asm); (case k3 => exact News.isList (by assumption) (by k_mem)); (case k4 => exact News.isList (by assumption) (by k_mem)); (case k5 => (rw [sizeLine_eq]; simp; omega)); intro h' F' N'; (try k_sweep)))
local macro_rules | `(tactic| walk_at "subscriptTail Name UnaryOp ref int") => `(tactic| (refine' item_last ?k1 ?_ ?k6 ?k7; (case k1 => (refine' lst_up ?a1 ?a2; (case a1 => assumption); (case a2 => assumption))); (case k6 => with_unfolding_all rfl); (case k7 => (intro _; with_unfolding_all rfl))))
variable {w : World} {mean : ExcName → Option Value} {mg mb : Str → Option Value} {base : Heap} {dp un : Nat} {fr : Option (List Env)} {gd : Option (List Code)} {s : Shared}
def TupsAre (h : Heap) (ts : List Value) (S : List (Int × Int × Int)) : Prop := ts.length = S.length ∧ ∀ (j : Nat) x, S[j]? = some x → ∃ a t1 t2 t3, ts[j]? = some (.ref a) ∧ IsTup h a #[.int x.1 t1, .int x.2.1 t2, .int x.2.2 t3]
theorem ints_of {S : List (Int × Int × Int)} {ys : Array Value} (hn : ys.size = S.length) (h : ∀ i, i < S.length → ∃ x t, S[i]? = some x ∧ ys[i]? = some (.int x.2.2 t)) : IntsAre ys.toList (S.map fun x => x.2.2) := by
  have key : ∀ (S : List (Int × Int × Int)) (l : List Value), l.length = S.length → (∀ i, i < S.length → ∃ x t, S[i]? = some x ∧ l[i]? = some (Value.int x.2.2 t)) → IntsAre l (S.map fun x => x.2.2) := by
    intro S
    induction S with
    | nil => intro l hl _; cases l with | nil => exact .nil | cons _ _ => cases hl
    | cons x r ih =>
      intro l hl h
      cases l with
      | nil => cases hl
      | cons v l =>
        obtain ⟨y, t, h1, h2⟩ := h 0 (by simp)
        simp at h1 h2
        subst h1 h2
        exact .cons _ t (ih l (by simpa using hl) fun i hi => by
          obtain ⟨y', t', h3, h4⟩ := h (i + 1) (by simpa using hi)
          exact ⟨y', t', by simpa using h3, by simpa using h4⟩)
  refine key S ys.toList (by simpa using hn) fun i hi => ?_
  obtain ⟨x, t, h1, h2⟩ := h i hi
  exact ⟨x, t, h1, by simpa using h2⟩
def pieceOf (ring : Nat) (x : Int × Int × Int) : Str := Str.mk ((List.range x.2.2.toNat).map fun (way : Nat) => W ring ((x.1 + x.2.1 * (way : Int)).fmod 16).toNat).toArray
theorem allLt_mem {d : Nat} : ∀ {l : List (Addr × Obj)}, AllLt d l → ∀ p ∈ l, @LT.lt Nat _ p.1 d
  | [], _, _, h => nomatch h
  | _ :: _, x, p, h => by
    rcases List.mem_cons.mp h with rfl | h
    · exact x.1
    · exact allLt_mem x.2 p h
def psOf (ring : Nat) (S : List (Int × Int × Int)) (sh cd : Bool) : List Str := (if sh then [] else [Str.ofString ""]) ++ (S.map (pieceOf ring) ++ (if cd then [] else [Str.ofString ""]))
theorem strs_app : ∀ {vs ws : List Value} {a b : List Str}, StrsAre vs a → StrsAre ws b → StrsAre (vs ++ ws) (a ++ b)
  | _, _, _, _, .nil, h => h
  | _, _, _, _, .cons y t r, h => .cons y t (strs_app r h)
theorem strs_opt {b : Bool} {t : Tok} (h : b = false) : StrsAre [Value.str (Str.ofString "") t] (if b then [] else [Str.ofString ""]) := by rw [h]; exact .cons _ _ .nil
theorem strs_opt0 {b : Bool} (h : b = true) : StrsAre [] (if b then ([] : List Str) else [Str.ofString ""]) := by rw [h]; exact .nil
def szOf (S : List (Int × Int × Int)) (cd : Bool) : List Int := if cd = true then List.take ((List.map (fun x => x.2.2) S).length - 1) (List.map (fun x => x.2.2) S) else List.map (fun x => x.2.2) S
theorem rng4 {ld : Nat} (h : ld ≤ 3) : Builtin.Range.small (ld : Int) (40 + 1) 4 = true ∧ Builtin.Range.rangeSize (ld : Int) (40 + 1) 4 = (((40 - ld) / 4 + 1 : Nat) : Int) := by
  have : ∀ k : Fin 4, Builtin.Range.small (k.val : Int) (40 + 1) 4 = true ∧ Builtin.Range.rangeSize (k.val : Int) (40 + 1) 4 = (((40 - k.val) / 4 + 1 : Nat) : Int) := by decide +kernel
  exact this ⟨ld, by omega⟩
def TextOk (ps : List Str) (a : Str) (mid : List Str) (b : Str) : Prop :=
  Txt.split (Txt.join (Str.ofString "...") ps) (Str.ofString "...") = a :: (mid ++ [b]) ∧ (Builtin.Str.occurrences (Txt.join (Str.ofString "...") ps) (Str.ofString "...") 0 (Txt.join (Str.ofString "...") ps).length 1).isEmpty = false ∧
    (Txt.join (Str.ofString "...") ps).length ≤ 1000 ∧ a.length ≤ 1000 ∧ b.length ≤ 1000 ∧ (∀ y ∈ mid, y.length ≤ 1000) ∧ mid.length ≤ 10
def lastZ (S : List (Int × Int × Int)) : Int := (List.map (fun x => x.2.2) S).getD (-1 + ((List.map (fun x => x.2.2) S).length : Int)).toNat 0
def fitsF (S : List (Int × Int × Int)) (ck : List (List Nat)) (cd : Bool) (spot : Int) (nn : Nat) : Bool :=
  if cd = true then decide (spot ≤ (nn : Int) - lastZ S) && ((ck.getD (ck.length - 1) []).map fun (n : Nat) => (n : Int)).any fun x => x == ((nn : Int) - lastZ S).fmod 16 else decide (spot ≤ (nn : Int))
theorem fit_A {S : List (Int × Int × Int)} {ck : List (List Nat)} {hlast : List Nat} {cd x : Bool} {spot : Int} {nn : Nat} (hkl : ck[ck.length - 1]? = some hlast) (hc : cd = true) (hv : x = fitsF S ck cd spot nn)
    (hle : spot ≤ (nn : Int) - (List.map (fun x => x.2.2) S).getD (-1 + ((List.map (fun x => x.2.2) S).length : Int)).toNat 0)
    (hne : (x != (List.map (fun (n : Nat) => (n : Int)) hlast).any fun x => x == ((nn : Int) - (List.map (fun x => x.2.2) S).getD (-1 + ((List.map (fun x => x.2.2) S).length : Int)).toNat 0).fmod 16) = true) : False := by
  subst hc
  have e : ck.getD (ck.length - 1) [] = hlast := by rw [List.getD_eq_getElem?_getD, hkl]; rfl
  rw [hv, fitsF, if_pos rfl, e] at hne
  unfold lastZ at hne
  rw [decide_eq_true hle, Bool.true_and, bne_self_eq_false] at hne
  cases hne
theorem fit_B {S : List (Int × Int × Int)} {ck : List (List Nat)} {cd x : Bool} {spot : Int} {nn : Nat} (hc : cd = true) (hv : x = fitsF S ck cd spot nn)
    (hle : ¬ spot ≤ (nn : Int) - (List.map (fun x => x.2.2) S).getD (-1 + ((List.map (fun x => x.2.2) S).length : Int)).toNat 0)
    (hne : (x != decide (spot ≤ (nn : Int) - (List.map (fun x => x.2.2) S).getD (-1 + ((List.map (fun x => x.2.2) S).length : Int)).toNat 0)) = true) : False := by
  subst hc
  rw [hv, fitsF, if_pos rfl] at hne
  unfold lastZ at hne
  rw [decide_eq_false hle, Bool.false_and, bne_self_eq_false] at hne
  cases hne
theorem fit_C {S : List (Int × Int × Int)} {ck : List (List Nat)} {cd x : Bool} {spot : Int} {nn : Nat} (hc : cd = false) (hv : x = fitsF S ck cd spot nn)
    (hne : (x != decide (spot ≤ (nn : Int))) = true) : False := by
  subst hc
  rw [hv, fitsF, if_neg (by decide), bne_self_eq_false] at hne
  cases hne
theorem c_told (X₀ : (hd.heap_39 w.params).In base) (T₀ : Top hd.view_39 Lv mean mg mb base) (st : base.StaysIn s.heap) (hA : dp + 8 < recursionLimit) (hu : un + 80 < cLine)
   (ring : Nat) (hr : ring < 4) (wk : Str) (hwk : wk.length = 40) (lw lst lc : Addr) (ts ws cs : List Value) (S : List (Int × Int × Int)) (ck : List (List Nat)) (ld : Nat) (t1 t5 : Tok) (hld : ld ≤ 3)
   (hw : s.heap.IsList lw ws.toArray) (hws : StrsAre ws ((List.range 16).map fun k => Str.mk #[W ring k])) (hts : s.heap.IsList lst ts.toArray) (hS : TupsAre s.heap ts S) (hk : 2 ≤ S.length ∧ S.length ≤ 8) 
   (hSb : ∀ x ∈ S, (0 ≤ x.1 ∧ x.1 < 16) ∧ (0 ≤ x.2.1 ∧ x.2.1 ≤ 16) ∧ (0 ≤ x.2.2 ∧ x.2.2 ≤ 3))
   (hc : s.heap.IsList lc cs.toArray) (hck : ck.length = S.length) (hck8 : ck.length ≤ 8) (hcl : cs.length = ck.length)
   (hci : ∀ (j : Nat) (hs : List Nat), ck[j]? = some hs → hs.length ≤ 16 ∧ (∀ h ∈ hs, h < 16) ∧ ∃ a vs, cs[j]? = some (.ref a) ∧ s.heap.IsList a vs ∧ IntsAre vs.toList (hs.map fun (n : Nat) => (n : Int))) (hjw : ∀ sh cd, ((psOf ring S sh cd).map (·.length)).sum + (psOf ring S sh cd).length ≤ 1000)
   (hlaw : ∀ sh cd, ∃ a mid b, TextOk (psOf ring S sh cd) a mid b ∧ ∀ spot (nn : Nat), nn ≤ 40 → Ended sh (szOf S cd) ck spot → ellF a mid b (Txt.slice wk none (some (nn : Int))) = fitsF S ck cd spot nn) :
   wpAny (model Pr w) (Ar dp un fr gd) (call (.ref 81) [.str wk t1, .ref lw, .ref lst, .ref lc, .int ld t5]) (Post s fun v h' => v = .bool true) (fun _ _ => False) s := by
  have hszlen : ∀ cd, (szOf S cd).length ≤ ck.length := by intro cd; unfold szOf; split <;> simp <;> omega
  have hszb : ∀ cd, ∀ z ∈ szOf S cd, 0 ≤ z ∧ z ≤ 3 := by
    intro cd z hz
    have h1 : z ∈ S.map (fun x => x.2.2) := by
      unfold szOf at hz
      split at hz
      · exact List.mem_of_mem_take hz
      · exact hz
    obtain ⟨x, hx, rfl⟩ := List.mem_map.mp h1
    exact (hSb x hx).2.2
  obtain ⟨hlast, hkl⟩ : ∃ hlast, ck[ck.length - 1]? = some hlast := ⟨_, List.getElem?_eq_getElem (by omega)⟩
  obtain ⟨hl16, hlb, al, vl, hal, hvl, hvi⟩ := hci _ _ hkl
  obtain ⟨ci, hcs⟩ : ∃ ci, cs = ci ++ [.ref al] := by
    refine ⟨cs.take (cs.length - 1), ?_⟩
    have h1 : cs.length - 1 < cs.length := by omega
    rw [← hcl, List.getElem?_eq_getElem h1] at hal
    have h2 := List.take_append_getElem h1
    rw [Nat.sub_add_cancel (by omega), List.take_length, Option.some.inj hal] at h2
    exact h2.symm
  have hclast : s.heap.IsList lc (ci ++ [Value.ref al]).toArray := by rw [← hcs]; exact hc
  have X := X₀.keeps st
  have T := T₀.keeps st
  clear X₀ T₀ st
  refine' enterC [(Str.ofString "walk", .str wk t1), (Str.ofString "wheel", .ref lw), (Str.ofString "stretches", .ref lst), (Str.ofString "clock", .ref lc), (Str.ofString "lead", .int ld t5)] ?k1 ?k2 ?k3 ?k6 ?k7 ?k8 ?k9 ?kB ?c5 ?_ ?c2 ?c3 ?c4; (case k1 => k_asm); (case k2 => first | assumption | exact fun _ _ e => e); (case k3 => exact Top.nolimit (by assumption)); (case k6 => k_is); (case k7 => k_is); (case k8 => (dsimp only [Ar]; omega)); (case k9 => exact BindsTo.of_eq rfl); (case c5 => decide); (case kB => exact rfl); (case c2 => exact rfl); (case c3 => exact rfl); (case c4 => exact rfl); k_whole; intro h₁ tk cells F N Y; k_cells Y; (try k_unmd); (try dsimp only); k_fold
  walk_at "my go"
  refine assign_comp (h₀ := s.heap) (fun i v _ => ∃ x t, S[i]? = some x ∧ v = .int x.2.2 t) (fun _ _ _ _ _ g => g) rfl (by rfl) (by rfl) (by decide) rfl (by decide) rfl rfl (by intro _; rfl) ?_
  walk_at "my go"
  refine CA.intro (lst_up hts F) (by have := hS.1; simp; rw [sizeLine_eq]; omega) F N ?_ ?_
  · intro C i v s₃ m₃ cenv hE hv hm hk3 hC
    have hi : i < S.length := by
      rw [← hS.1]
      have : ts[i]? = some v := by simpa using hv
      exact (List.getElem?_eq_some_iff.mp this).1
    obtain ⟨a, u1, u2, u3, hta, htt⟩ := hS.2 i S[i] (by simp [hi])
    have ev : v = .ref a := by
      have : ts[i]? = some v := by simpa using hv
      rw [hta] at this
      exact (Option.some.inj this).symm
    subst ev
    have hEL : cenv.locals = C := by rw [hE]; rfl
    refine assign3 rfl (IsTup.keeps htt (stays_trans F.keep hk3)) (by rw [hE]; rfl) (by rw [hE]; rfl) (by rw [hE]; rfl) (by rw [hE]; rfl) (by rw [hEL]; exact hm) ?_
    intro h' tk' hn' hk'
    refine Sees.ev (.loc _ (by rw [hE]; rfl) (by rw [hE]; rfl) hn' rfl) ?_ (by decide)
    rw [hEL] at hn' hk'
    exact ⟨h', tk', _, [], rfl, hn', hk', (fun p hp => nomatch hp), S[i], u3, by simp [hi], rfl⟩
  · intro D n ys tr h' tk' F' N' hoD hoT hys hG
    have hzi : IntsAre ys.toList (S.map fun x => x.2.2) := ints_of (by rw [hys]; simpa using hS.1) (by intro j hj; obtain ⟨v, h1, x, t, h2, h3⟩ := hG j (by rw [← hS.1] at hj; simpa using hj); exact ⟨x, t, h2, by rw [h1, h3]⟩)
    replace N' := news_cong (b := (D, W.listOf ys n) :: [(s.heap.objs.size + 1 + 1 + 1, _), (s.heap.objs.size + 1 + 1, _), (s.heap.objs.size + 1, _)]) N' (by
      intro p hp
      rcases List.mem_cons.mp hp with rfl | hp
      · exact .head _
      · exact .tail _ (List.mem_append_right _ hp))
    have hD1 : (D : Nat) ≠ s.heap.objs.size + 1 + 1 + 1 := neN (fun e => hoD _ (List.mem_append_right _ (.head _)) e.symm)
    have hD2 : (D : Nat) ≠ s.heap.objs.size + 1 + 1 := neN (fun e => hoD _ (List.mem_append_right _ (.tail _ (.head _))) e.symm)
    have hD3 : (D : Nat) ≠ s.heap.objs.size + 1 := neN (fun e => hoD _ (List.mem_append_right _ (.tail _ (.tail _ (.head _)))) e.symm)
    clear hoD hoT hG N F tr
    dsimp only
    walk_at "my go"
    refine' forT ?k1 ?k2 ?_; (case k1 => k_asm); (case k2 => (intro _; rfl)); k_fold
    walk_at "my go"
    rename Fr _ _ _ _ => F
    rename News _ _ _ _ => N
    refine news_head N ?_
    intro lp hlp
    subst hlp
    refine iter_lstT (fun i m news => (∃ o1 o2 o3 pl pn, news = [(lp, W.listOf pl pn), (D, W.listOf ys n), (s.heap.objs.size + 1 + 1 + 1, o1), (s.heap.objs.size + 1 + 1, o2), (s.heap.objs.size + 1, o3)] ∧ (∃ x, o1.data = .cell x) ∧ (∃ x, o2.data = .cell x) ∧ o3.data = .cell (some (.ref lw)) ∧ StrsAre pl.toList ((S.take i).map (pieceOf ring))) ∧
      m (Str.ofString "pieces") = some (.ref lp) ∧ m (Str.ofString "sizes") = some (.ref D) ∧ m (Str.ofString "walk") = some (.str wk t1) ∧ m (Str.ofString "clock") = some (.ref lc) ∧ m (Str.ofString "lead") = some (.int ld t5)) rfl (lst_up hts F) F N ?_ ?_ ?_ ?_ ?_
    · exact Nat.ne_of_lt (by obtain ⟨_, e, _⟩ := hts; exact Heap.lt_size e)
    · intro p hp e
      obtain ⟨_, e2, _⟩ := hts
      have := (N p hp).2.2
      rw [e, e2] at this
      cases this
    · exact ⟨⟨_, _, _, _, _, rfl, ⟨_, by assumption⟩, ⟨_, by assumption⟩, by assumption, .nil⟩, rfl, rfl, rfl, rfl, rfl⟩
    · intro i v m₁ news₁ s₁ own hi hv ha ho hj F N
      obtain ⟨⟨o1, o2, o3, pl, pn, rfl, ⟨x1, hd1⟩, ⟨x2, hd2⟩, hd3, hpl⟩, hm1, hm2, hm3, hm4, hm5⟩ := hj
      have hi2 : i < S.length := by rw [← hS.1]; simpa using hi
      obtain ⟨a, u1, u2, u3, hta, htt⟩ := hS.2 i S[i] (by simp [hi2])
      have ev : v = .ref a := by
        have : ts[i]? = some v := by simpa using hv
        rw [hta] at this
        exact (Option.some.inj this).symm
      subst ev
      have hxb := hSb S[i] (List.getElem_mem hi2)
      have htake : (S.take (i + 1)).map (pieceOf ring) = (S.take i).map (pieceOf ring) ++ [pieceOf ring S[i]] := by rw [List.take_add_one, List.getElem?_eq_getElem hi2, List.map_append]; rfl
      generalize S[i] = x at *
      obtain ⟨hue, stride, size⟩ := x
      dsimp only at *
      replace F : Fr s.heap s.heap.objs.size s₁.heap _ := frAs (frAs (frAs (frAs (frAs F (Str.ofString "pieces") hm1) (Str.ofString "sizes") hm2) (Str.ofString "walk") hm3) (Str.ofString "clock") hm4) (Str.ofString "lead") hm5
      replace N : News s.heap s.heap.objs.size s₁.heap ((lp, W.listOf pl pn) :: (D, W.listOf ys n) :: (s.heap.objs.size + 1 + 1 + 1, o1) :: (s.heap.objs.size + 1 + 1, o2) :: (s.heap.objs.size + 1, o3) :: own) := N
      have htt' := htt.keeps F.keep
      replace ho : OwnOff own [lp, D, s.heap.objs.size + 1 + 1 + 1, s.heap.objs.size + 1 + 1, s.heap.objs.size + 1] := ho
      have hplsz : pl.size ≤ sizeLine := by
        have := hpl.len_eq
        rw [Array.length_toList, List.length_map, List.length_take] at this
        rw [sizeLine_eq]
        omega
      clear hm1 hm2 hm3 hm4 hm5 ha hv
      walk_at "my go"
      obtain ⟨k, hk'⟩ : ∃ k : Nat, size = (k : Int) := ⟨size.toNat, by omega⟩
      refine comp_range (fun _ => true) (fun (j : Nat) y => ∃ t, y = .str (Str.mk #[W ring ((hue + stride * (j : Int)).fmod 16).toNat]) t) rfl (by rfl) (by decide) rfl (by decide) (by decide) (by intro _; rfl) ?_
      walk_at "my go"
      refine CR.all k (by assumption) (by rw [hk']; exact (rng_facts (by omega)).1) (by rw [hk']; exact (rng_facts (by omega)).2) (by rw [sizeLine_eq]; omega) ?_ ?_
      · rename Fr _ _ _ _ => F
        rename News _ _ _ _ => N
        intro C j tv s₃ m₃ cenv hE hj hm hx st₃
        dsimp only at st₃
        have S1 : Sees cenv s₃.heap (Str.ofString "hue") (.int hue u1) := by rw [hE]; exact cellSees N st₃ rfl rfl rfl (by k_mem) (by assumption)
        have S2 : Sees cenv s₃.heap (Str.ofString "stride") (.int stride u2) := by rw [hE]; exact cellSees N st₃ rfl rfl rfl (by k_mem) (by assumption)
        have S3 : Sees cenv s₃.heap (Str.ofString "wheel") (.ref lw) := by rw [hE]; exact cellSees N st₃ rfl rfl rfl (by k_mem) (by assumption)
        have S5 : Sees cenv s₃.heap (Str.ofString "way") (.int j tv) := by rw [hE]; exact .loc m₃ rfl rfl hm hx
        have hj3 : j ≤ 3 := by omega
        have hf0 : 0 ≤ (hue + stride * (j : Int)).fmod 16 := Int.fmod_nonneg_of_pos _ (by decide)
        have hf1 : (hue + stride * (j : Int)).fmod 16 < 16 := Int.fmod_lt_of_pos _ (by decide)
        obtain ⟨tw, hit⟩ := hws.at (j := ((hue + stride * (j : Int)).fmod 16).toNat) (y := Str.mk #[W ring ((hue + stride * (j : Int)).fmod 16).toNat]) (by rw [List.getElem?_map, List.getElem?_range (by omega)]; rfl)
        have hw₃ : s₃.heap.IsList lw ws.toArray := hw.at fun o e => st₃ _ o (F.keep _ o e)
        have st : s₃.heap.StaysIn s₃.heap := stays_refl _
        walk_at "my go"
        exact ⟨⟨_, _, rfl, stays_refl _⟩, _, rfl⟩
      · rename Fr _ _ _ _ => F
        rename News _ _ _ _ => N
        intro D2 h2 tk2 ys2 hD hl hsz hy hk
        have F' := F.keeps hk
        have N' := N.grown hk
        clear F N
        walk_at "my go"
        refine join_listW hl.isList (strs_of hsz hy) (by decide) (by rw [ones_weight]; simp; omega) ?_
        intro tj kj
        rw [join_ones]
        have hpc : Str.mk ((List.range k).map fun (j : Nat) => W ring ((hue + stride * (j : Int)).fmod 16).toNat).toArray = pieceOf ring (hue, stride, size) := by
          unfold pieceOf
          rw [hk']
          rfl
        rw [hpc]
        walk_at "my go"
        rename Fr _ _ _ _ => F9
        rename News _ _ _ _ => N9
        exact TNext.intro [(lp, _), (D, _), (_, _), (_, _), (_, _)] F9 N9 rfl ⟨⟨_, _, _, _, _, rfl, ⟨_, by assumption⟩, ⟨_, by assumption⟩, hd3, by rw [htake, Array.toList_push]; exact strs_snoc hpl⟩, rfl, rfl, rfl, rfl, rfl⟩
    · intro m₁ news₁ h tk hj ha F N
      obtain ⟨⟨o1, o2, o3, pl, pn, rfl, ⟨x1, hd1⟩, ⟨x2, hd2⟩, hd3, hpl⟩, hm1, hm2, hm3, hm4, hm5⟩ := hj
      have e0 : ts.toArray.size = S.length := by simpa using hS.1
      rw [e0, List.take_length] at hpl
      have hplz : pl.size ≤ 8 := by
        have := hpl.len_eq
        rw [Array.length_toList, List.length_map] at this
        omega
      replace F : Fr s.heap s.heap.objs.size h _ := frAs (frAs (frAs (frAs (frAs F (Str.ofString "pieces") hm1) (Str.ofString "sizes") hm2) (Str.ofString "walk") hm3) (Str.ofString "clock") hm4) (Str.ofString "lead") hm5
      replace N := news_cong (b := [(lp, W.listOf pl pn), (D, W.listOf ys n)]) N (by
        intro p hp
        rcases List.mem_cons.mp hp with rfl | hp
        · exact .head _
        · rw [List.mem_singleton.mp hp]; exact .tail _ (.head _))
      replace N : News s.heap s.heap.objs.size h [(lp, W.listOf pl pn), (D, W.listOf ys n)] := N
      clear hm1 hm2 hm3 hm4 hm5 hd1 hd2 hd3 ha e0
      dsimp only
      walk_at "my go"
      walk_at "my for"
      walk_at "my go"
      k_unmd
      k_unfold
      dsimp only
      rename Fr _ _ _ _ => F
      rename News _ _ _ _ => N
      refine news_head N ?_
      intro lt hlt
      subst hlt
      refine iter_tup (news := [(lp, W.listOf pl pn), (D, W.listOf ys n)]) (fun i m news => news = [(lp, W.listOf pl pn), (D, W.listOf ys n)] ∧
        m (Str.ofString "pieces") = some (.ref lp) ∧ m (Str.ofString "sizes") = some (.ref D) ∧ m (Str.ofString "walk") = some (.str wk t1) ∧ m (Str.ofString "clock") = some (.ref lc) ∧ m (Str.ofString "lead") = some (.int ld t5)) rfl (News.isTup N (.head _)) F (news_cong N fun p hp => .tail _ hp) (N _ (.head _)).2.1 ?_ ⟨rfl, rfl, rfl, rfl, rfl, rfl⟩ ?_ ?_
      · intro p hp e
        have h1 : p.1 = lp ∨ p.1 = D := by
          rcases List.mem_cons.mp hp with rfl | hp
          · exact .inl rfl
          · rw [List.mem_singleton.mp hp]; exact .inr rfl
        rcases h1 with h1 | h1 <;> (rw [h1] at e; revert e; refine neN ?_; omega)
      · intro i v m₁ news₁ h tk own hi hv ha ho hj F N
        obtain ⟨rfl, hm1, hm2, hm3, hm4, hm5⟩ := hj
        obtain ⟨sh, ev⟩ : ∃ sh : Bool, v = .bool sh := by
          have : i = 0 ∨ i = 1 := by simp at hi; omega
          rcases this with rfl | rfl <;> (cases hv; exact ⟨_, rfl⟩)
        subst ev
        replace F : Fr s.heap s.heap.objs.size h _ := frAs (frAs (frAs (frAs (frAs F (Str.ofString "pieces") hm1) (Str.ofString "sizes") hm2) (Str.ofString "walk") hm3) (Str.ofString "clock") hm4) (Str.ofString "lead") hm5
        replace N : News s.heap s.heap.objs.size h ((lp, W.listOf pl pn) :: (D, W.listOf ys n) :: own) := N
        replace ho : OwnOff own [lp, D] := ho
        clear hm1 hm2 hm3 hm4 hm5 ha hv hi
        walk_at "my go"
        walk_at "my for"
        walk_at "my go"
        k_unmd
        k_unfold
        dsimp only
        rename Fr _ _ _ _ => F
        rename News _ _ _ _ => N
        rename _ ∧ _ ∧ AllLt _ _ => l9
        obtain ⟨l91, l92, l93⟩ := l9
        refine news_head N ?_
        intro lu hlu
        subst hlu
        refine iter_tup (news := (lp, W.listOf pl pn) :: (D, W.listOf ys n) :: own) (fun i m news => news = (lp, W.listOf pl pn) :: (D, W.listOf ys n) :: own ∧
          m (Str.ofString "pieces") = some (.ref lp) ∧ m (Str.ofString "sizes") = some (.ref D) ∧ m (Str.ofString "walk") = some (.str wk t1) ∧ m (Str.ofString "clock") = some (.ref lc) ∧ m (Str.ofString "lead") = some (.int ld t5) ∧ m (Str.ofString "shut") = some (.bool sh)) rfl (News.isTup N (.head _)) F (news_cong N fun p hp => .tail _ hp) (N _ (.head _)).2.1 ?_ ⟨rfl, rfl, rfl, rfl, rfl, rfl, rfl⟩ ?_ ?_
        · intro p hp e
          rcases List.mem_cons.mp hp with rfl | hp
          · revert e; refine neN ?_; dsimp only; omega
          · rcases List.mem_cons.mp hp with rfl | hp
            · revert e; refine neN ?_; dsimp only; omega
            · have := allLt_mem l93 p hp
              revert e; refine neN ?_; omega
        · intro i v m₁ news₁ h tk own2 hi hv ha ho2 hj F N
          obtain ⟨rfl, hm1, hm2, hm3, hm4, hm5, hm6⟩ := hj
          obtain ⟨cd, ev⟩ : ∃ cd : Bool, v = .bool cd := by
            have : i = 0 ∨ i = 1 := by simp at hi; omega
            rcases this with rfl | rfl <;> (cases hv; exact ⟨_, rfl⟩)
          subst ev
          replace F : Fr s.heap s.heap.objs.size h _ := frAs (frAs (frAs (frAs (frAs (frAs F (Str.ofString "pieces") hm1) (Str.ofString "sizes") hm2) (Str.ofString "walk") hm3) (Str.ofString "clock") hm4) (Str.ofString "lead") hm5) (Str.ofString "shut") hm6
          replace N : News s.heap s.heap.objs.size h ((lp, W.listOf pl pn) :: (D, W.listOf ys n) :: (own ++ own2)) := N
          have hR : OwnOff (own ++ own2) [lp, D] := by
            intro p hp b hb
            rcases List.mem_append.mp hp with h1 | h1
            · exact ho p h1 b hb
            · refine ho2 p h1 b ?_
              rcases List.mem_cons.mp hb with rfl | hb
              · exact .head _
              · rw [List.mem_singleton.mp hb]; exact .tail _ (.head _)
          generalize hRR : own ++ own2 = R at *
          have hjw' := hjw sh cd
          clear hm1 hm2 hm3 hm4 hm5 hm6 ha hv hi
          walk_at "my go"
          · skip
            rename Fr _ _ _ _ => F
            rename News _ _ _ _ => N
            refine join_listW (ys := psOf ring S sh cd) (News.isList N (.head _)) (by
              unfold psOf
              simp only [List.append_assoc]
              exact strs_app (by first | exact strs_opt0 (by assumption) | exact strs_opt (by assumption)) (strs_app hpl (by first | exact strs_opt0 (by assumption) | exact strs_opt (by assumption)))) (by decide) (by omega) ?_
            intro tj kj
            walk_at "my go"
            rename Fr _ _ _ _ => F
            rename News _ _ _ _ => N
            refine' useK ?k1 ?k2 (c_end ?k3 ?k4 ?k5 ?hA ?hu _ _ _ cs (szOf S cd) ck _ ?hz ?hzi ?hc ?hlen ?hn ?hcl ?hci ?hsz) ?_
            case k1 => exact F
            case k2 => exact N
            case k3 => exact X
            case k4 => exact T
            case k5 => exact F.keep
            case hA => dsimp only [Ar, Around.deeper]; omega
            case hu => dsimp only [Ar, Around.deeper]; omega
            case hz => exact News.isList N (by k_mem)
            case hzi => first | (rw [szOf, if_pos ‹cd = true›]; assumption) | (rw [szOf, if_neg (by rw [‹cd = false›]; decide)]; exact hzi)
            case hc => exact lst_up hc F
            case hlen => exact hszlen cd
            case hn => exact hck8
            case hcl => exact hcl
            case hci =>
              intro j hs e
              obtain ⟨g1, g2, a, vs, g3, g4, g5⟩ := hci j hs e
              exact ⟨g1, g2, a, vs, g3, lst_up g4 F, g5⟩
            case hsz => exact hszb cd
            clear F N
            intro v' h' tk' K' F N hP
            obtain ⟨spot, tsp, ev, hEnd⟩ := hP
            subst ev
            replace N := news_cong (b := (lp, W.listOf pl pn) :: (D, W.listOf ys n) :: R) N (by intro p hp; repeat (first | exact hp | refine List.Mem.tail _ ?_))
            have hwk' : (wk.length : Int) = 40 := by rw [hwk]; rfl
            walk_at "my go"
            walk_at "my for"
            walk_at "my go"
            rename Fr _ _ _ _ => F
            rename News _ _ _ _ => N
            rename IsRange _ _ _ _ _ _ _ _ => hRng
            rw [hwk'] at hRng
            refine iter_rng (n := (40 - ld) / 4 + 1) (fun i m news => news = (lp, W.listOf pl pn) :: (D, W.listOf ys n) :: R ∧
              m (Str.ofString "pieces") = some (.ref lp) ∧ m (Str.ofString "sizes") = some (.ref D) ∧ m (Str.ofString "walk") = some (.str wk t1) ∧ m (Str.ofString "clock") = some (.ref lc) ∧ m (Str.ofString "lead") = some (.int ld t5) ∧ m (Str.ofString "shut") = some (.bool sh) ∧ m (Str.ofString "closed") = some (.bool cd) ∧
              m (Str.ofString "spot") = some (.int spot tsp) ∧ m (Str.ofString "want") = some (.str (Txt.join (Str.ofString "...") (psOf ring S sh cd)) tj)) rfl hRng ?_ ?_ F N ⟨rfl, rfl, rfl, rfl, rfl, rfl, rfl, rfl, rfl, rfl⟩ ?_ ?_
            · exact (rng4 hld).1
            · exact (rng4 hld).2
            · intro i v m₁ news₁ h tk own3 hi hv ha ho3 hj F N
              obtain ⟨tv, rfl⟩ := hv
              obtain ⟨rfl, hm1, hm2, hm3, hm4, hm5, hm6, hm7, hm8, hm9⟩ := hj
              obtain ⟨nn, hnn, hn40⟩ : ∃ nn : Nat, (ld : Int) + (i : Int) * 4 = (nn : Int) ∧ nn ≤ 40 := ⟨ld + i * 4, by push_cast; rfl, by omega⟩
              rw [hnn] at F
              replace F : Fr s.heap s.heap.objs.size h _ := frAs (frAs (frAs (frAs (frAs (frAs (frAs (frAs (frAs F (Str.ofString "pieces") hm1) (Str.ofString "sizes") hm2) (Str.ofString "walk") hm3) (Str.ofString "clock") hm4) (Str.ofString "lead") hm5) (Str.ofString "shut") hm6) (Str.ofString "closed") hm7) (Str.ofString "spot") hm8) (Str.ofString "want") hm9
              replace N : News s.heap s.heap.objs.size h ((lp, W.listOf pl pn) :: (D, W.listOf ys n) :: (R ++ own3)) := N
              clear hm1 hm2 hm3 hm4 hm5 hm6 hm7 hm8 hm9 ha
              obtain ⟨a, mid, b, ⟨x1, x2, x3, x4, x5, x6, x7⟩, hval⟩ := hlaw sh cd
              have hval' := hval spot nn hn40 hEnd
              clear hval
              walk_at "my go"
              all_goals
                rename Fr _ _ _ _ => F
                rename News _ _ _ _ => N
                rename (Txt.slice _ _ _).length ≤ _ => hgl
                refine' useK ?k1 ?k2 (c_ell ?k3 ?k4 ?k5 ?hA ?hu _ _ _ _ ?hw ?hg a b mid ?ha ?hb ?hml ?hmid ?hsp ?hocc) ?_
                case k1 => exact F
                case k2 => exact N
                case k3 => exact X
                case k4 => exact T
                case k5 => exact F.keep
                case hA => dsimp only [Ar, Around.deeper]; omega
                case hu => dsimp only [Ar, Around.deeper]; omega
                case hw => exact x3
                case hg => omega
                case ha => exact x4
                case hb => exact x5
                case hml => exact x6
                case hmid => exact x7
                case hsp => exact x1
                case hocc => exact x2
                clear F N
                intro v' h' tk' K' F N hP
                subst hP
                walk_at "my go"
              all_goals first
                | exact (fit_A hkl (by assumption) hval' (by assumption) (by assumption)).elim
                | exact (fit_B (by assumption) hval' (by assumption) (by assumption)).elim
                | exact (fit_C (by assumption) hval' (by assumption)).elim
                | (rename Fr _ _ _ _ => F
                   rename News _ _ _ _ => N
                   exact TPost.next ((lp, W.listOf pl pn) :: (D, W.listOf ys n) :: R) F N rfl ⟨rfl, rfl, rfl, rfl, rfl, rfl, rfl, rfl, rfl, rfl⟩)
              all_goals done
            · intro m₁ news₁ h tk hj ha F N
              obtain ⟨rfl, hm1, hm2, hm3, hm4, hm5, hm6, hm7, hm8, hm9⟩ := hj
              replace F : Fr s.heap s.heap.objs.size h _ := F
              dsimp only
              walk_at "my go"
              subst hRR
              exact TPost.next ((lp, W.listOf pl pn) :: (D, W.listOf ys n) :: own) F N rfl ⟨rfl, hm1, hm2, hm3, hm4, hm5, hm6⟩
          · skip
            rename Fr _ _ _ _ => F
            rename News _ _ _ _ => N
            refine join_listW (ys := psOf ring S sh cd) (News.isList N (.head _)) (by
              unfold psOf
              simp only [List.append_assoc]
              exact strs_app (by first | exact strs_opt0 (by assumption) | exact strs_opt (by assumption)) (strs_app hpl (by first | exact strs_opt0 (by assumption) | exact strs_opt (by assumption)))) (by decide) (by omega) ?_
            intro tj kj
            walk_at "my go"
            rename Fr _ _ _ _ => F
            rename News _ _ _ _ => N
            refine' useK ?k1 ?k2 (c_end ?k3 ?k4 ?k5 ?hA ?hu _ _ _ cs (szOf S cd) ck _ ?hz ?hzi ?hc ?hlen ?hn ?hcl ?hci ?hsz) ?_
            case k1 => exact F
            case k2 => exact N
            case k3 => exact X
            case k4 => exact T
            case k5 => exact F.keep
            case hA => dsimp only [Ar, Around.deeper]; omega
            case hu => dsimp only [Ar, Around.deeper]; omega
            case hz => exact News.isList N (by k_mem)
            case hzi => first | (rw [szOf, if_pos ‹cd = true›]; assumption) | (rw [szOf, if_neg (by rw [‹cd = false›]; decide)]; exact hzi)
            case hc => exact lst_up hc F
            case hlen => exact hszlen cd
            case hn => exact hck8
            case hcl => exact hcl
            case hci =>
              intro j hs e
              obtain ⟨g1, g2, a, vs, g3, g4, g5⟩ := hci j hs e
              exact ⟨g1, g2, a, vs, g3, lst_up g4 F, g5⟩
            case hsz => exact hszb cd
            clear F N
            intro v' h' tk' K' F N hP
            obtain ⟨spot, tsp, ev, hEnd⟩ := hP
            subst ev
            replace N := news_cong (b := (lp, W.listOf pl pn) :: (D, W.listOf ys n) :: R) N (by intro p hp; repeat (first | exact hp | refine List.Mem.tail _ ?_))
            have hwk' : (wk.length : Int) = 40 := by rw [hwk]; rfl
            walk_at "my go"
            walk_at "my for"
            walk_at "my go"
            rename Fr _ _ _ _ => F
            rename News _ _ _ _ => N
            rename IsRange _ _ _ _ _ _ _ _ => hRng
            rw [hwk'] at hRng
            refine iter_rng (n := (40 - ld) / 4 + 1) (fun i m news => news = (lp, W.listOf pl pn) :: (D, W.listOf ys n) :: R ∧
              m (Str.ofString "pieces") = some (.ref lp) ∧ m (Str.ofString "sizes") = some (.ref D) ∧ m (Str.ofString "walk") = some (.str wk t1) ∧ m (Str.ofString "clock") = some (.ref lc) ∧ m (Str.ofString "lead") = some (.int ld t5) ∧ m (Str.ofString "shut") = some (.bool sh) ∧ m (Str.ofString "closed") = some (.bool cd) ∧
              m (Str.ofString "spot") = some (.int spot tsp) ∧ m (Str.ofString "want") = some (.str (Txt.join (Str.ofString "...") (psOf ring S sh cd)) tj)) rfl hRng ?_ ?_ F N ⟨rfl, rfl, rfl, rfl, rfl, rfl, rfl, rfl, rfl, rfl⟩ ?_ ?_
            · exact (rng4 hld).1
            · exact (rng4 hld).2
            · intro i v m₁ news₁ h tk own3 hi hv ha ho3 hj F N
              obtain ⟨tv, rfl⟩ := hv
              obtain ⟨rfl, hm1, hm2, hm3, hm4, hm5, hm6, hm7, hm8, hm9⟩ := hj
              obtain ⟨nn, hnn, hn40⟩ : ∃ nn : Nat, (ld : Int) + (i : Int) * 4 = (nn : Int) ∧ nn ≤ 40 := ⟨ld + i * 4, by push_cast; rfl, by omega⟩
              rw [hnn] at F
              replace F : Fr s.heap s.heap.objs.size h _ := frAs (frAs (frAs (frAs (frAs (frAs (frAs (frAs (frAs F (Str.ofString "pieces") hm1) (Str.ofString "sizes") hm2) (Str.ofString "walk") hm3) (Str.ofString "clock") hm4) (Str.ofString "lead") hm5) (Str.ofString "shut") hm6) (Str.ofString "closed") hm7) (Str.ofString "spot") hm8) (Str.ofString "want") hm9
              replace N : News s.heap s.heap.objs.size h ((lp, W.listOf pl pn) :: (D, W.listOf ys n) :: (R ++ own3)) := N
              clear hm1 hm2 hm3 hm4 hm5 hm6 hm7 hm8 hm9 ha
              obtain ⟨a, mid, b, ⟨x1, x2, x3, x4, x5, x6, x7⟩, hval⟩ := hlaw sh cd
              have hval' := hval spot nn hn40 hEnd
              clear hval
              walk_at "my go"
              all_goals
                rename Fr _ _ _ _ => F
                rename News _ _ _ _ => N
                rename (Txt.slice _ _ _).length ≤ _ => hgl
                refine' useK ?k1 ?k2 (c_ell ?k3 ?k4 ?k5 ?hA ?hu _ _ _ _ ?hw ?hg a b mid ?ha ?hb ?hml ?hmid ?hsp ?hocc) ?_
                case k1 => exact F
                case k2 => exact N
                case k3 => exact X
                case k4 => exact T
                case k5 => exact F.keep
                case hA => dsimp only [Ar, Around.deeper]; omega
                case hu => dsimp only [Ar, Around.deeper]; omega
                case hw => exact x3
                case hg => omega
                case ha => exact x4
                case hb => exact x5
                case hml => exact x6
                case hmid => exact x7
                case hsp => exact x1
                case hocc => exact x2
                clear F N
                intro v' h' tk' K' F N hP
                subst hP
                walk_at "my go"
              all_goals first
                | exact (fit_A hkl (by assumption) hval' (by assumption) (by assumption)).elim
                | exact (fit_B (by assumption) hval' (by assumption) (by assumption)).elim
                | exact (fit_C (by assumption) hval' (by assumption)).elim
                | (rename Fr _ _ _ _ => F
                   rename News _ _ _ _ => N
                   exact TPost.next ((lp, W.listOf pl pn) :: (D, W.listOf ys n) :: R) F N rfl ⟨rfl, rfl, rfl, rfl, rfl, rfl, rfl, rfl, rfl, rfl⟩)
              all_goals done
            · intro m₁ news₁ h tk hj ha F N
              obtain ⟨rfl, hm1, hm2, hm3, hm4, hm5, hm6, hm7, hm8, hm9⟩ := hj
              replace F : Fr s.heap s.heap.objs.size h _ := F
              dsimp only
              walk_at "my go"
              subst hRR
              exact TPost.next ((lp, W.listOf pl pn) :: (D, W.listOf ys n) :: own) F N rfl ⟨rfl, hm1, hm2, hm3, hm4, hm5, hm6⟩
          · skip
            rename Fr _ _ _ _ => F
            rename News _ _ _ _ => N
            refine join_listW (ys := psOf ring S sh cd) (News.isList N (.head _)) (by
              unfold psOf
              simp only [List.append_assoc]
              exact strs_app (by first | exact strs_opt0 (by assumption) | exact strs_opt (by assumption)) (strs_app hpl (by first | exact strs_opt0 (by assumption) | exact strs_opt (by assumption)))) (by decide) (by omega) ?_
            intro tj kj
            walk_at "my go"
            rename Fr _ _ _ _ => F
            rename News _ _ _ _ => N
            refine' useK ?k1 ?k2 (c_end ?k3 ?k4 ?k5 ?hA ?hu _ _ _ cs (szOf S cd) ck _ ?hz ?hzi ?hc ?hlen ?hn ?hcl ?hci ?hsz) ?_
            case k1 => exact F
            case k2 => exact N
            case k3 => exact X
            case k4 => exact T
            case k5 => exact F.keep
            case hA => dsimp only [Ar, Around.deeper]; omega
            case hu => dsimp only [Ar, Around.deeper]; omega
            case hz => exact News.isList N (by k_mem)
            case hzi => first | (rw [szOf, if_pos ‹cd = true›]; assumption) | (rw [szOf, if_neg (by rw [‹cd = false›]; decide)]; exact hzi)
            case hc => exact lst_up hc F
            case hlen => exact hszlen cd
            case hn => exact hck8
            case hcl => exact hcl
            case hci =>
              intro j hs e
              obtain ⟨g1, g2, a, vs, g3, g4, g5⟩ := hci j hs e
              exact ⟨g1, g2, a, vs, g3, lst_up g4 F, g5⟩
            case hsz => exact hszb cd
            clear F N
            intro v' h' tk' K' F N hP
            obtain ⟨spot, tsp, ev, hEnd⟩ := hP
            subst ev
            replace N := news_cong (b := (lp, W.listOf pl pn) :: (D, W.listOf ys n) :: R) N (by intro p hp; repeat (first | exact hp | refine List.Mem.tail _ ?_))
            have hwk' : (wk.length : Int) = 40 := by rw [hwk]; rfl
            walk_at "my go"
            walk_at "my for"
            walk_at "my go"
            rename Fr _ _ _ _ => F
            rename News _ _ _ _ => N
            rename IsRange _ _ _ _ _ _ _ _ => hRng
            rw [hwk'] at hRng
            refine iter_rng (n := (40 - ld) / 4 + 1) (fun i m news => news = (lp, W.listOf pl pn) :: (D, W.listOf ys n) :: R ∧
              m (Str.ofString "pieces") = some (.ref lp) ∧ m (Str.ofString "sizes") = some (.ref D) ∧ m (Str.ofString "walk") = some (.str wk t1) ∧ m (Str.ofString "clock") = some (.ref lc) ∧ m (Str.ofString "lead") = some (.int ld t5) ∧ m (Str.ofString "shut") = some (.bool sh) ∧ m (Str.ofString "closed") = some (.bool cd) ∧
              m (Str.ofString "spot") = some (.int spot tsp) ∧ m (Str.ofString "want") = some (.str (Txt.join (Str.ofString "...") (psOf ring S sh cd)) tj)) rfl hRng ?_ ?_ F N ⟨rfl, rfl, rfl, rfl, rfl, rfl, rfl, rfl, rfl, rfl⟩ ?_ ?_
            · exact (rng4 hld).1
            · exact (rng4 hld).2
            · intro i v m₁ news₁ h tk own3 hi hv ha ho3 hj F N
              obtain ⟨tv, rfl⟩ := hv
              obtain ⟨rfl, hm1, hm2, hm3, hm4, hm5, hm6, hm7, hm8, hm9⟩ := hj
              obtain ⟨nn, hnn, hn40⟩ : ∃ nn : Nat, (ld : Int) + (i : Int) * 4 = (nn : Int) ∧ nn ≤ 40 := ⟨ld + i * 4, by push_cast; rfl, by omega⟩
              rw [hnn] at F
              replace F : Fr s.heap s.heap.objs.size h _ := frAs (frAs (frAs (frAs (frAs (frAs (frAs (frAs (frAs F (Str.ofString "pieces") hm1) (Str.ofString "sizes") hm2) (Str.ofString "walk") hm3) (Str.ofString "clock") hm4) (Str.ofString "lead") hm5) (Str.ofString "shut") hm6) (Str.ofString "closed") hm7) (Str.ofString "spot") hm8) (Str.ofString "want") hm9
              replace N : News s.heap s.heap.objs.size h ((lp, W.listOf pl pn) :: (D, W.listOf ys n) :: (R ++ own3)) := N
              clear hm1 hm2 hm3 hm4 hm5 hm6 hm7 hm8 hm9 ha
              obtain ⟨a, mid, b, ⟨x1, x2, x3, x4, x5, x6, x7⟩, hval⟩ := hlaw sh cd
              have hval' := hval spot nn hn40 hEnd
              clear hval
              walk_at "my go"
              all_goals
                rename Fr _ _ _ _ => F
                rename News _ _ _ _ => N
                rename (Txt.slice _ _ _).length ≤ _ => hgl
                refine' useK ?k1 ?k2 (c_ell ?k3 ?k4 ?k5 ?hA ?hu _ _ _ _ ?hw ?hg a b mid ?ha ?hb ?hml ?hmid ?hsp ?hocc) ?_
                case k1 => exact F
                case k2 => exact N
                case k3 => exact X
                case k4 => exact T
                case k5 => exact F.keep
                case hA => dsimp only [Ar, Around.deeper]; omega
                case hu => dsimp only [Ar, Around.deeper]; omega
                case hw => exact x3
                case hg => omega
                case ha => exact x4
                case hb => exact x5
                case hml => exact x6
                case hmid => exact x7
                case hsp => exact x1
                case hocc => exact x2
                clear F N
                intro v' h' tk' K' F N hP
                subst hP
                walk_at "my go"
              all_goals first
                | exact (fit_A hkl (by assumption) hval' (by assumption) (by assumption)).elim
                | exact (fit_B (by assumption) hval' (by assumption) (by assumption)).elim
                | exact (fit_C (by assumption) hval' (by assumption)).elim
                | (rename Fr _ _ _ _ => F
                   rename News _ _ _ _ => N
                   exact TPost.next ((lp, W.listOf pl pn) :: (D, W.listOf ys n) :: R) F N rfl ⟨rfl, rfl, rfl, rfl, rfl, rfl, rfl, rfl, rfl, rfl⟩)
              all_goals done
            · intro m₁ news₁ h tk hj ha F N
              obtain ⟨rfl, hm1, hm2, hm3, hm4, hm5, hm6, hm7, hm8, hm9⟩ := hj
              replace F : Fr s.heap s.heap.objs.size h _ := F
              dsimp only
              walk_at "my go"
              subst hRR
              exact TPost.next ((lp, W.listOf pl pn) :: (D, W.listOf ys n) :: own) F N rfl ⟨rfl, hm1, hm2, hm3, hm4, hm5, hm6⟩
          · skip
            rename Fr _ _ _ _ => F
            rename News _ _ _ _ => N
            refine join_listW (ys := psOf ring S sh cd) (News.isList N (.head _)) (by
              unfold psOf
              simp only [List.append_assoc]
              exact strs_app (by first | exact strs_opt0 (by assumption) | exact strs_opt (by assumption)) (strs_app hpl (by first | exact strs_opt0 (by assumption) | exact strs_opt (by assumption)))) (by decide) (by omega) ?_
            intro tj kj
            walk_at "my go"
            rename Fr _ _ _ _ => F
            rename News _ _ _ _ => N
            refine' useK ?k1 ?k2 (c_end ?k3 ?k4 ?k5 ?hA ?hu _ _ _ cs (szOf S cd) ck _ ?hz ?hzi ?hc ?hlen ?hn ?hcl ?hci ?hsz) ?_
            case k1 => exact F
            case k2 => exact N
            case k3 => exact X
            case k4 => exact T
            case k5 => exact F.keep
            case hA => dsimp only [Ar, Around.deeper]; omega
            case hu => dsimp only [Ar, Around.deeper]; omega
            case hz => exact News.isList N (by k_mem)
            case hzi => first | (rw [szOf, if_pos ‹cd = true›]; assumption) | (rw [szOf, if_neg (by rw [‹cd = false›]; decide)]; exact hzi)
            case hc => exact lst_up hc F
            case hlen => exact hszlen cd
            case hn => exact hck8
            case hcl => exact hcl
            case hci =>
              intro j hs e
              obtain ⟨g1, g2, a, vs, g3, g4, g5⟩ := hci j hs e
              exact ⟨g1, g2, a, vs, g3, lst_up g4 F, g5⟩
            case hsz => exact hszb cd
            clear F N
            intro v' h' tk' K' F N hP
            obtain ⟨spot, tsp, ev, hEnd⟩ := hP
            subst ev
            replace N := news_cong (b := (lp, W.listOf pl pn) :: (D, W.listOf ys n) :: R) N (by intro p hp; repeat (first | exact hp | refine List.Mem.tail _ ?_))
            have hwk' : (wk.length : Int) = 40 := by rw [hwk]; rfl
            walk_at "my go"
            walk_at "my for"
            walk_at "my go"
            rename Fr _ _ _ _ => F
            rename News _ _ _ _ => N
            rename IsRange _ _ _ _ _ _ _ _ => hRng
            rw [hwk'] at hRng
            refine iter_rng (n := (40 - ld) / 4 + 1) (fun i m news => news = (lp, W.listOf pl pn) :: (D, W.listOf ys n) :: R ∧
              m (Str.ofString "pieces") = some (.ref lp) ∧ m (Str.ofString "sizes") = some (.ref D) ∧ m (Str.ofString "walk") = some (.str wk t1) ∧ m (Str.ofString "clock") = some (.ref lc) ∧ m (Str.ofString "lead") = some (.int ld t5) ∧ m (Str.ofString "shut") = some (.bool sh) ∧ m (Str.ofString "closed") = some (.bool cd) ∧
              m (Str.ofString "spot") = some (.int spot tsp) ∧ m (Str.ofString "want") = some (.str (Txt.join (Str.ofString "...") (psOf ring S sh cd)) tj)) rfl hRng ?_ ?_ F N ⟨rfl, rfl, rfl, rfl, rfl, rfl, rfl, rfl, rfl, rfl⟩ ?_ ?_
            · exact (rng4 hld).1
            · exact (rng4 hld).2
            · intro i v m₁ news₁ h tk own3 hi hv ha ho3 hj F N
              obtain ⟨tv, rfl⟩ := hv
              obtain ⟨rfl, hm1, hm2, hm3, hm4, hm5, hm6, hm7, hm8, hm9⟩ := hj
              obtain ⟨nn, hnn, hn40⟩ : ∃ nn : Nat, (ld : Int) + (i : Int) * 4 = (nn : Int) ∧ nn ≤ 40 := ⟨ld + i * 4, by push_cast; rfl, by omega⟩
              rw [hnn] at F
              replace F : Fr s.heap s.heap.objs.size h _ := frAs (frAs (frAs (frAs (frAs (frAs (frAs (frAs (frAs F (Str.ofString "pieces") hm1) (Str.ofString "sizes") hm2) (Str.ofString "walk") hm3) (Str.ofString "clock") hm4) (Str.ofString "lead") hm5) (Str.ofString "shut") hm6) (Str.ofString "closed") hm7) (Str.ofString "spot") hm8) (Str.ofString "want") hm9
              replace N : News s.heap s.heap.objs.size h ((lp, W.listOf pl pn) :: (D, W.listOf ys n) :: (R ++ own3)) := N
              clear hm1 hm2 hm3 hm4 hm5 hm6 hm7 hm8 hm9 ha
              obtain ⟨a, mid, b, ⟨x1, x2, x3, x4, x5, x6, x7⟩, hval⟩ := hlaw sh cd
              have hval' := hval spot nn hn40 hEnd
              clear hval
              walk_at "my go"
              all_goals
                rename Fr _ _ _ _ => F
                rename News _ _ _ _ => N
                rename (Txt.slice _ _ _).length ≤ _ => hgl
                refine' useK ?k1 ?k2 (c_ell ?k3 ?k4 ?k5 ?hA ?hu _ _ _ _ ?hw ?hg a b mid ?ha ?hb ?hml ?hmid ?hsp ?hocc) ?_
                case k1 => exact F
                case k2 => exact N
                case k3 => exact X
                case k4 => exact T
                case k5 => exact F.keep
                case hA => dsimp only [Ar, Around.deeper]; omega
                case hu => dsimp only [Ar, Around.deeper]; omega
                case hw => exact x3
                case hg => omega
                case ha => exact x4
                case hb => exact x5
                case hml => exact x6
                case hmid => exact x7
                case hsp => exact x1
                case hocc => exact x2
                clear F N
                intro v' h' tk' K' F N hP
                subst hP
                walk_at "my go"
              all_goals first
                | exact (fit_A hkl (by assumption) hval' (by assumption) (by assumption)).elim
                | exact (fit_B (by assumption) hval' (by assumption) (by assumption)).elim
                | exact (fit_C (by assumption) hval' (by assumption)).elim
                | (rename Fr _ _ _ _ => F
                   rename News _ _ _ _ => N
                   exact TPost.next ((lp, W.listOf pl pn) :: (D, W.listOf ys n) :: R) F N rfl ⟨rfl, rfl, rfl, rfl, rfl, rfl, rfl, rfl, rfl, rfl⟩)
              all_goals done
            · intro m₁ news₁ h tk hj ha F N
              obtain ⟨rfl, hm1, hm2, hm3, hm4, hm5, hm6, hm7, hm8, hm9⟩ := hj
              replace F : Fr s.heap s.heap.objs.size h _ := F
              dsimp only
              walk_at "my go"
              subst hRR
              exact TPost.next ((lp, W.listOf pl pn) :: (D, W.listOf ys n) :: own) F N rfl ⟨rfl, hm1, hm2, hm3, hm4, hm5, hm6⟩
        · intro m₁ news₁ h tk hj ha F N
          obtain ⟨rfl, hm1, hm2, hm3, hm4, hm5, hm6⟩ := hj
          replace F : Fr s.heap s.heap.objs.size h _ := F
          dsimp only
          walk_at "my go"
          exact TPost.next [(lp, W.listOf pl pn), (D, W.listOf ys n)] F N rfl ⟨rfl, hm1, hm2, hm3, hm4, hm5⟩
      · intro m₁ news₁ h tk hj ha F N
        replace F : Fr s.heap s.heap.objs.size h _ := F
        walk_at "my go"
        exact Post.intro F rfl

end
section
local macro_rules | `(tactic| walk_at "binaryOp Mod float float") => `(tactic| (refine AutoFloatOps.mod_1 (by decide +kernel) ?_; dsimp only [Made.post]))
local macro_rules | `(tactic| walk_at "my bar") => `(tactic| (
  (fail_if_success (with_reducible show wpAny _ _ (pyIter _) _ _ _)); (fail_if_success (with_reducible show wpAny _ _ (exec (Stmt.For _ _ _ _ _) _) _ _ _)); (fail_if_success (with_reducible show wpAny _ _ (eval (Expr.ListComp _ _ _ _) _) _ _ _)); (fail_if_success (with_reducible show wpAny _ _ (exec (Stmt.Assign _ (Expr.ListComp _ _ _ _) _) _) _ _ _))))
local macro_rules | `(tactic| walk_at "my go") => `(tactic| repeat' (first | (k_unfold; (try dsimp only)) | (walk_at "my bar"; walk1) | (walk_at "my bar"; dsimp only; walk_at "my bar"; walk1)))
local macro_rules | `(tactic| walk_at "my for") => `(tactic| (refine' forV ?k1 ?k2 ?k3 ?k4 ?_; (case k1 => k_asm); (case k2 => rfl); (case k3 => rfl); (case k4 => (intro _; rfl)); (try k_fold)))
local macro_rules | `(tactic| walk_at "eval Name") => `(tactic| (refine' Sees.at ?k1 ?k2 ?_ ?k3; (case k1 => assumption); (case k2 => assumption); (case k3 => decide)))
local macro_rules | `(tactic| walk_at "binaryOp Div int float") => `(tactic| (refine AutoFloatOps.truediv_if_2 (Float64.ofInt_fits (by assumption)) (by decide +kernel) ?_; dsimp only [Made.post]))
local macro_rules | `(tactic| walk_at "call ref") => `(tactic| ((with_reducible show wpAny _ _ (call (Value.ref 35) _) _ _ _); refine' useK ?k1 ?k2 (c_v ?k3 ?k4 ?k5 ?k6 _ _ _ _ _ _) ?_; (case k1 => k_asm); (case k2 => k_asm); (case k3 => k_asm); (case k4 => assumption); (case k5 => exact Fr.keep (by k_asm)); (case k6 => (dsimp only [Ar, Around.deeper]; omega)); intro v' h' tk' K' F' N' P'; obtain ⟨t', P'⟩ := P'; subst P'; (try k_sweep)))
local macro_rules | `(tactic| walk_at "call type:int") => `(tactic| ((with_reducible show wpAny _ _ (call (Value.type "int") [Value.float _ _]) _ _ _); refine int_fin (by assumption) ?_))
local macro_rules | `(tactic| walk_at "binaryOp Sub float int") => `(tactic| ((with_reducible show wpAny _ _ (binaryOp Operator.Sub (Value.float _ _) (Value.int _ _)) _ _ _); refine sub_fi_fits (by assumption) ?_))
local macro_rules | `(tactic| walk_at "call ref") => `(tactic| ((with_reducible show wpAny _ _ (call (Value.ref 42) _) _ _ _); refine' useS ?k1 (c_hsv ?k3 ?k4 ?k1 ?k6 _ _ _ _ _ _ ?k7 ?k8) ?_; (case k1 => assumption); (case k3 => assumption); (case k4 => assumption); (case k6 => (dsimp only [Ar, Around.deeper]; omega)); (case k7 => assumption); (case k8 => assumption); intro v' h' tk' st' P'; (have X' := Frag.In.keeps (by assumption) st'); obtain ⟨l', t1', t2', t3', P', hl'⟩ := P'; subst P'))
local macro_rules | `(tactic| walk_at "call ref") => `(tactic| ((with_reducible show wpAny _ _ (call (Value.ref 28) _) _ _ _); refine' useS ?k1 (c_hls ?k3 ?k4 ?k1 ?k6 _ _ _ _ _ _) ?_; (case k1 => assumption); (case k3 => assumption); (case k4 => assumption); (case k6 => (dsimp only [Ar, Around.deeper]; omega)); intro v' h' tk' st' P'; (have X' := Frag.In.keeps (by assumption) st'); obtain ⟨l', t1', t2', t3', P', hl'⟩ := P'; subst P'))
local macro_rules | `(tactic| walk_at "call ref") => `(tactic| ((with_reducible show wpAny _ _ (call (Value.ref 49) _) _ _ _); refine' useS ?k1 (c_sign ?k3 ?k4 ?k1 ?k6 _ _ _ _ _ _ _ ?k7 ?k8 ?k9 ?k10) ?_; (case k1 => assumption); (case k3 => assumption); (case k4 => assumption); (case k6 => (dsimp only [Ar, Around.deeper]; omega)); (case k7 => assumption); (case k8 => assumption); (case k9 => assumption); (case k10 => assumption); intro v' h' tk' st' P'; (have X' := Frag.In.keeps (by assumption) st'); obtain ⟨t', P'⟩ := P'; subst P'))
local macro_rules | `(tactic| walk_at "subscriptTail Name Name ref int") => `(tactic| (refine' item_litK ?k1 ?k2 ?k3 ?k4 ?_ ?k6; (case k4 => assumption); (case k1 => (refine' lst_up ?a1 ?a2; (case a1 => assumption); (case a2 => assumption))); (case k2 => omega); (case k3 => omega); (case k6 => with_unfolding_all rfl)))
local macro_rules | `(tactic| walk_at "truthy str") => `(tactic| refine P.truthy_str (by omega) ?_)
local macro_rules | `(tactic| walk_at "my go assert") => `(tactic| repeat' (first | (k_unfold; (try dsimp only)) | (walk_at "my bar"; (fail_if_success (with_reducible show wpAny _ _ (exec (Stmt.Assert _ _ _) _) _ _ _)); walk1) | (walk_at "my bar"; (fail_if_success (with_reducible show wpAny _ _ (exec (Stmt.Assert _ _ _) _) _ _ _)); dsimp only; walk_at "my bar"; (fail_if_success (with_reducible show wpAny _ _ (exec (Stmt.Assert _ _ _) _) _ _ _)); walk1)))
local macro_rules | `(tactic| walk_at "subscriptTail Name Constant ref int") => `(tactic| (refine' item_litK ?k1 ?k2 ?k3 ?k4 ?_ ?k6; (case k4 => assumption); (case k1 => exact News.isList (by assumption) (by k_mem)); (case k2 => decide); (case k3 => decide); (case k6 => with_unfolding_all rfl)))
local macro_rules | `(tactic| walk_at "subscriptTail Name UnaryOp ref int") => `(tactic| (refine' item_last ?k1 ?_ ?k6 ?k7; (case k1 => exact News.isList (by assumption) (by k_mem)); (case k6 => with_unfolding_all rfl); (case k7 => (intro _; with_unfolding_all rfl))))
local macro_rules | `(tactic| walk_at "call builtin:str.find") => `(tactic| ((with_reducible show wpAny _ _ (call (Value.builtin _) [_, _, _, _]) _ _ _); refine find4 (by omega) ?_))
local macro_rules | `(tactic| walk_at "subscriptTail Name BinOp ref int") => `(tactic| (refine' item_litK ?k1 ?k2 ?k3 ?k4 ?_ ?k6; (case k4 => assumption); (case k1 => assumption); (case k2 => omega); (case k3 => omega); (case k6 => with_unfolding_all rfl)))
local macro_rules | `(tactic| walk_at "binaryOp Add ref ref") => `(tactic| (refine' add_arrays ?k1 ?k2 ?k3 ?k4 ?_ ?k5; (case k1 => k_asm); (case k2 => k_asm); (case k3 => exact News.isList (by assumption) (by k_mem)); (case k4 => exact News.isList (by assumption) (by k_mem)); (case k5 => (rw [sizeLine_eq]; simp; omega)); intro h' F' N'; (try k_sweep)))
local macro_rules | `(tactic| walk_at "subscriptTail Name UnaryOp ref int") => `(tactic| (refine' item_last ?k1 ?_ ?k6 ?k7; (case k1 => (refine' lst_up ?a1 ?a2; (case a1 => assumption); (case a2 => assumption))); (case k6 => with_unfolding_all rfl); (case k7 => (intro _; with_unfolding_all rfl))))
variable {w : World} {mean : ExcName → Option Value} {mg mb : Str → Option Value} {base : Heap} {dp un : Nat} {fr : Option (List Env)} {gd : Option (List Code)} {s : Shared}
def stsOf (start step : Nat) (ns : List Int) : List (Int × Int × Int) := (List.range ns.length).map (strAt start step ns)
def wkOf (ring start step : Nat) : Str := Str.mk ((List.range 40).map fun h => W ring ((start + step * h) % 16)).toArray
def Plain (ring start step : Nat) (ns : List Int) : Prop := ∀ sh cd, ∃ a mid b, TextOk (psOf ring (stsOf start step ns) sh cd) a mid b ∧
  ∀ spot (nn : Nat), nn ≤ 40 → Ended sh (szOf (stsOf start step ns) cd) ((stsOf start step ns).map (hoursF start step)) spot → ellF a mid b (Txt.slice (wkOf ring start step) none (some (nn : Int))) = fitsF (stsOf start step ns) ((stsOf start step ns).map (hoursF start step)) cd spot nn
theorem led {h₀ h' : Heap} {L : Addr} {ys : Array Value} {f : Nat → Int × Int × Int} : ∀ n : Nat, (∀ j, j < n → ∃ a t1 t2 t3, ys[j]? = some (.ref a) ∧ a ≠ L ∧ h₀.get? a = none ∧ h'.get? a = some (tupObj (f j) t1 t2 t3)) →
    ∃ tl, News h₀ L h' tl ∧ ∀ j, j < n → ∃ a t1 t2 t3, ys[j]? = some (.ref a) ∧ (a, tupObj (f j) t1 t2 t3) ∈ tl
  | 0, _ => ⟨[], News.nil, fun j hj => absurd hj (Nat.not_lt_zero _)⟩
  | n + 1, H => by
    obtain ⟨tl, N, h⟩ := led n fun j hj => H j (by omega)
    obtain ⟨a, t1, t2, t3, h1, h2, h3, h4⟩ := H n (by omega)
    refine ⟨(a, tupObj (f n) t1 t2 t3) :: tl, ?_, ?_⟩
    · intro p hp
      rcases List.mem_cons.mp hp with rfl | hp
      · exact ⟨h4, h2, h3⟩
      · exact N p hp
    · intro j hj
      by_cases e : j = n
      · subst e
        exact ⟨a, t1, t2, t3, h1, .head _⟩
      · obtain ⟨b, u1, u2, u3, g1, g2⟩ := h j (by omega)
        exact ⟨b, u1, u2, u3, g1, .tail _ g2⟩
theorem news_app {h₀ h : Heap} {L : Addr} {a b : List (Addr × Obj)} (A : News h₀ L h a) (B : News h₀ L h b) : News h₀ L h (a ++ b) := fun p hp => (List.mem_append.mp hp).elim (A p) (B p)
theorem news_put {h₀ h : Heap} {L a : Addr} {o : Obj} {r : List (Addr × Obj)} (x : h.get? a = some o) (y : a ≠ L) (z : h₀.get? a = none) (N : News h₀ L h r) : News h₀ L h ((a, o) :: r) := fun p hp => by
  rcases List.mem_cons.mp hp with rfl | hp
  · exact ⟨x, y, z⟩
  · exact N p hp
theorem ne_frame {h₀ h : Heap} {L a : Addr} {m : Str → Option Value} (F : Fr h₀ L h m) (e : h.get? a = none) : a ≠ L := fun q => by
  obtain ⟨o, _, _, ho, _⟩ := F.ns
  rw [q, ho] at e; cases e
theorem stays_store {h h₃ h₄ : Heap} {L C : Addr} (k : h.StaysIn h₃) (e : L = C) (n : h.get? C = none) (sb : Heap.SameBut L h₃ h₄) : h.StaysIn h₄ := fun b o q => sb.extBut b o (fun x => by rw [x, e, n] at q; cases q) (k b o q)
theorem strAt_bounds (start step : Nat) (hp : step < 16) (ns : List Int) (j : Nat) : (0 ≤ (strAt start step ns j).1 ∧ (strAt start step ns j).1 < 16) ∧ (0 ≤ (strAt start step ns j).2.1 ∧ (strAt start step ns j).2.1 ≤ 16) ∧ (0 ≤ (strAt start step ns j).2.2 ∧ (strAt start step ns j).2.2 ≤ 3) := by
  unfold strAt str1
  dsimp only
  refine ⟨⟨Int.fmod_nonneg_of_pos _ (by decide), Int.fmod_lt_of_pos _ (by decide)⟩, ?_, Int.fmod_nonneg_of_pos _ (by decide), Int.le_of_lt_add_one (Int.fmod_lt_of_pos _ (by decide))⟩
  split <;> omega
theorem sts_bounds {start step : Nat} (hp : step < 16) {ns : List Int} : ∀ x ∈ stsOf start step ns, (0 ≤ x.1 ∧ x.1 < 16) ∧ (0 ≤ x.2.1 ∧ x.2.1 ≤ 16) ∧ (0 ≤ x.2.2 ∧ x.2.2 ≤ 3) := by
  intro x hx
  obtain ⟨j, _, rfl⟩ := List.mem_map.mp hx
  exact strAt_bounds start step hp ns j
theorem sts_len (start step : Nat) (ns : List Int) : (stsOf start step ns).length = ns.length := by unfold stsOf; simp
theorem sts_at {start step : Nat} {ns : List Int} {j : Nat} (h : j < ns.length) : (stsOf start step ns)[j]? = some (strAt start step ns j) := by unfold stsOf; rw [List.getElem?_map, List.getElem?_range h]; rfl
theorem hours_len (start step : Nat) (x : Int × Int × Int) : (hoursF start step x).length ≤ 16 := by
  unfold hoursF
  split
  · exact Nat.zero_le _
  · exact Nat.le_trans (List.length_filter_le _ _) (by simp)
theorem hours_lt {start step : Nat} {x : Int × Int × Int} : ∀ h ∈ hoursF start step x, h < 16 := by
  intro h hh
  unfold hoursF at hh
  split at hh
  · cases hh
  · exact List.mem_range.mp (List.mem_filter.mp hh).1
theorem piece_len {ring : Nat} {x : Int × Int × Int} (h : 0 ≤ x.2.2 ∧ x.2.2 ≤ 3) : (pieceOf ring x).length ≤ 3 := by
  unfold pieceOf Str.length
  simp
  omega
theorem sum_le {c : Nat} : ∀ (l : List Nat), (∀ x ∈ l, x ≤ c) → l.sum ≤ c * l.length
  | [], _ => by simp
  | a :: r, h => by
    have h1 := h a (.head _)
    have h2 := sum_le r fun x hx => h x (.tail _ hx)
    rw [List.sum_cons, List.length_cons, Nat.mul_succ]
    omega
theorem ps_mem {ring : Nat} {S : List (Int × Int × Int)} {sh cd : Bool} (hS : ∀ x ∈ S, 0 ≤ x.2.2 ∧ x.2.2 ≤ 3) : ∀ y ∈ psOf ring S sh cd, y.length ≤ 3 := by
  intro y hy
  unfold psOf at hy
  rcases List.mem_append.mp hy with h | h
  · split at h
    · cases h
    · rw [List.mem_singleton.mp h]; decide
  · rcases List.mem_append.mp h with h | h
    · obtain ⟨x, hx, rfl⟩ := List.mem_map.mp h
      exact piece_len (hS x hx)
    · split at h
      · cases h
      · rw [List.mem_singleton.mp h]; decide
theorem ps_len {ring : Nat} {S : List (Int × Int × Int)} {sh cd : Bool} : (psOf ring S sh cd).length ≤ S.length + 2 := by
  unfold psOf
  cases sh <;> cases cd <;> simp
theorem ps_weight {ring : Nat} {S : List (Int × Int × Int)} {sh cd : Bool} (hS : ∀ x ∈ S, 0 ≤ x.2.2 ∧ x.2.2 ≤ 3) (hl : S.length ≤ 8) : ((psOf ring S sh cd).map (·.length)).sum + (psOf ring S sh cd).length ≤ 1000 := by
  have h1 := sum_le (c := 3) ((psOf ring S sh cd).map (·.length)) (by
    intro x hx
    obtain ⟨y, hy, rfl⟩ := List.mem_map.mp hx
    exact ps_mem hS y hy)
  rw [List.length_map] at h1
  have h2 := ps_len (ring := ring) (S := S) (sh := sh) (cd := cd)
  omega

end
section
local macro_rules | `(tactic| walk_at "binaryOp Mod float float") => `(tactic| (refine AutoFloatOps.mod_1 (by decide +kernel) ?_; dsimp only [Made.post]))
local macro_rules | `(tactic| walk_at "my bar") => `(tactic| (
  (fail_if_success (with_reducible show wpAny _ _ (pyIter _) _ _ _)); (fail_if_success (with_reducible show wpAny _ _ (exec (Stmt.For _ _ _ _ _) _) _ _ _)); (fail_if_success (with_reducible show wpAny _ _ (eval (Expr.ListComp _ _ _ _) _) _ _ _)); (fail_if_success (with_reducible show wpAny _ _ (exec (Stmt.Assign _ (Expr.ListComp _ _ _ _) _) _) _ _ _))))
local macro_rules | `(tactic| walk_at "my go") => `(tactic| repeat' (first | (k_unfold; (try dsimp only)) | (walk_at "my bar"; walk1) | (walk_at "my bar"; dsimp only; walk_at "my bar"; walk1)))
local macro_rules | `(tactic| walk_at "my for") => `(tactic| (refine' forV ?k1 ?k2 ?k3 ?k4 ?_; (case k1 => k_asm); (case k2 => rfl); (case k3 => rfl); (case k4 => (intro _; rfl)); (try k_fold)))
local macro_rules | `(tactic| walk_at "eval Name") => `(tactic| (refine' Sees.at ?k1 ?k2 ?_ ?k3; (case k1 => assumption); (case k2 => assumption); (case k3 => decide)))
local macro_rules | `(tactic| walk_at "binaryOp Div int float") => `(tactic| (refine AutoFloatOps.truediv_if_2 (Float64.ofInt_fits (by assumption)) (by decide +kernel) ?_; dsimp only [Made.post]))
local macro_rules | `(tactic| walk_at "call ref") => `(tactic| ((with_reducible show wpAny _ _ (call (Value.ref 35) _) _ _ _); refine' useK ?k1 ?k2 (c_v ?k3 ?k4 ?k5 ?k6 _ _ _ _ _ _) ?_; (case k1 => k_asm); (case k2 => k_asm); (case k3 => k_asm); (case k4 => assumption); (case k5 => exact Fr.keep (by k_asm)); (case k6 => (dsimp only [Ar, Around.deeper]; omega)); intro v' h' tk' K' F' N' P'; obtain ⟨t', P'⟩ := P'; subst P'; (try k_sweep)))
local macro_rules | `(tactic| walk_at "call type:int") => `(tactic| ((with_reducible show wpAny _ _ (call (Value.type "int") [Value.float _ _]) _ _ _); refine int_fin (by assumption) ?_))
local macro_rules | `(tactic| walk_at "binaryOp Sub float int") => `(tactic| ((with_reducible show wpAny _ _ (binaryOp Operator.Sub (Value.float _ _) (Value.int _ _)) _ _ _); refine sub_fi_fits (by assumption) ?_))
local macro_rules | `(tactic| walk_at "call ref") => `(tactic| ((with_reducible show wpAny _ _ (call (Value.ref 42) _) _ _ _); refine' useS ?k1 (c_hsv ?k3 ?k4 ?k1 ?k6 _ _ _ _ _ _ ?k7 ?k8) ?_; (case k1 => assumption); (case k3 => assumption); (case k4 => assumption); (case k6 => (dsimp only [Ar, Around.deeper]; omega)); (case k7 => assumption); (case k8 => assumption); intro v' h' tk' st' P'; (have X' := Frag.In.keeps (by assumption) st'); obtain ⟨l', t1', t2', t3', P', hl'⟩ := P'; subst P'))
local macro_rules | `(tactic| walk_at "call ref") => `(tactic| ((with_reducible show wpAny _ _ (call (Value.ref 28) _) _ _ _); refine' useS ?k1 (c_hls ?k3 ?k4 ?k1 ?k6 _ _ _ _ _ _) ?_; (case k1 => assumption); (case k3 => assumption); (case k4 => assumption); (case k6 => (dsimp only [Ar, Around.deeper]; omega)); intro v' h' tk' st' P'; (have X' := Frag.In.keeps (by assumption) st'); obtain ⟨l', t1', t2', t3', P', hl'⟩ := P'; subst P'))
local macro_rules | `(tactic| walk_at "call ref") => `(tactic| ((with_reducible show wpAny _ _ (call (Value.ref 49) _) _ _ _); refine' useS ?k1 (c_sign ?k3 ?k4 ?k1 ?k6 _ _ _ _ _ _ _ ?k7 ?k8 ?k9 ?k10) ?_; (case k1 => assumption); (case k3 => assumption); (case k4 => assumption); (case k6 => (dsimp only [Ar, Around.deeper]; omega)); (case k7 => assumption); (case k8 => assumption); (case k9 => assumption); (case k10 => assumption); intro v' h' tk' st' P'; (have X' := Frag.In.keeps (by assumption) st'); obtain ⟨t', P'⟩ := P'; subst P'))
local macro_rules | `(tactic| walk_at "subscriptTail Name Name ref int") => `(tactic| (refine' item_litK ?k1 ?k2 ?k3 ?k4 ?_ ?k6; (case k4 => assumption); (case k1 => (refine' lst_up ?a1 ?a2; (case a1 => assumption); (case a2 => assumption))); (case k2 => omega); (case k3 => omega); (case k6 => with_unfolding_all rfl)))
local macro_rules | `(tactic| walk_at "truthy str") => `(tactic| refine P.truthy_str (by omega) ?_)
local macro_rules | `(tactic| walk_at "my go assert") => `(tactic| repeat' (first | (k_unfold; (try dsimp only)) | (walk_at "my bar"; (fail_if_success (with_reducible show wpAny _ _ (exec (Stmt.Assert _ _ _) _) _ _ _)); walk1) | (walk_at "my bar"; (fail_if_success (with_reducible show wpAny _ _ (exec (Stmt.Assert _ _ _) _) _ _ _)); dsimp only; walk_at "my bar"; (fail_if_success (with_reducible show wpAny _ _ (exec (Stmt.Assert _ _ _) _) _ _ _)); walk1)))
local macro_rules | `(tactic| walk_at "subscriptTail Name Constant ref int") => `(tactic| (refine' item_litK ?k1 ?k2 ?k3 ?k4 ?_ ?k6; (case k4 => assumption); (case k1 => exact News.isList (by assumption) (by k_mem)); (case k2 => decide); (case k3 => decide); (case k6 => with_unfolding_all rfl)))
local macro_rules | `(tactic| walk_at "subscriptTail Name UnaryOp ref int") => `(tactic| (refine' item_last ?k1 ?_ ?k6 ?k7; (case k1 => exact News.isList (by assumption) (by k_mem)); (case k6 => with_unfolding_all rfl); (case k7 => (intro _; with_unfolding_all rfl))))
local macro_rules | `(tactic| walk_at "call builtin:str.find") => `(tactic| ((with_reducible show wpAny _ _ (call (Value.builtin _) [_, _, _, _]) _ _ _); refine find4 (by omega) ?_))
local macro_rules | `(tactic| walk_at "subscriptTail Name BinOp ref int") => `(tactic| (refine' item_litK ?k1 ?k2 ?k3 ?k4 ?_ ?k6; (case k4 => assumption); (case k1 => assumption); (case k2 => omega); (case k3 => omega); (case k6 => with_unfolding_all rfl)))
local macro_rules | `(tactic| walk_at "binaryOp Add ref ref") => `(tactic| (refine' add_arrays ?k1 ?k2 ?k3 ?k4 ?_ ?k5; (case k1 => k_asm); (case k2 => k_asm); (case k3 => exact News.isList (by assumption) (by k_mem)); (case k4 => exact News.isList (by assumption) (by k_mem)); (case k5 => (rw [sizeLine_eq]; simp; omega)); intro h' F' N'; (try k_sweep)))
local macro_rules | `(tactic| walk_at "subscriptTail Name UnaryOp ref int") => `(tactic| (refine' item_last ?k1 ?_ ?k6 ?k7; (case k1 => (refine' lst_up ?a1 ?a2; (case a1 => assumption); (case a2 => assumption))); (case k6 => with_unfolding_all rfl); (case k7 => (intro _; with_unfolding_all rfl))))
variable {w : World} {mean : ExcName → Option Value} {mg mb : Str → Option Value} {base : Heap} {dp un : Nat} {fr : Option (List Env)} {gd : Option (List Code)} {s : Shared}
theorem none_back {h h' : Heap} {C T : Addr} {m : Str → Option Value} (n : h'.Ns C m) (sb : Heap.SameBut C h h') (e : h'.get? T = none) : h.get? T = none := by
  by_cases q : T = C
  · obtain ⟨o, _, _, ho, _⟩ := n
    rw [q, ho] at e; cases e
  · rw [← sb.2 T q]; exact e
theorem news_mix {h₀ h : Heap} {L : Addr} {D a b c : Addr × Obj} {tr tl : List (Addr × Obj)} (N : News h₀ L h (D :: (tr ++ a :: b :: c :: tl))) : News h₀ L h (D :: a :: b :: c :: (tl ++ tr)) := news_cong N (by
  intro p hp
  simp only [List.mem_cons, List.mem_append] at hp ⊢
  rcases hp with h | h | h | h | h | h <;> simp [h])
theorem isl {h : Heap} {a : Addr} {ys : Array Value} (x : h.IsList a ys) : h.IsList a ys.toList.toArray := by rw [Array.toArray_toList]; exact x
theorem c_all (X₀ : (hd.heap_39 w.params).In base) (T₀ : Top hd.view_39 Lv mean mg mb base) (st : base.StaysIn s.heap) (hA : dp + 10 < recursionLimit) (hu : un + 90 < cLine)
   (first : Int) (t1 : Tok) (l : Addr) (vs : List Value) (ns : List Int) (hl : s.heap.IsList l vs.toArray) (hi : IntsAre vs ns) (hn : 2 ≤ ns.length ∧ ns.length ≤ 8) 
   (hlaw : ∀ ring start step : Nat, ring < 4 → start < 16 → step < 16 → Plain ring start step ns) :
   wpAny (model Pr w) (Ar dp un fr gd) (call (.ref 86) [.int first t1, .ref l]) (Post s fun v h' => v = .bool true) (fun _ _ => False) s := by
  have X := X₀.keeps st
  have T := T₀.keeps st
  clear X₀ T₀ st
  have nat16 : ∀ (x m : Int), 0 < m → ∃ n : Nat, x.fmod m = (n : Int) ∧ (n : Int) < m := fun x m hm => by
    have h1 := Int.fmod_nonneg_of_pos x hm
    have h2 := Int.fmod_lt_of_pos x hm
    exact ⟨(x.fmod m).toNat, by omega, by omega⟩
  obtain ⟨start, hs1, hs2⟩ := nat16 (first.fdiv 4) 16 (by decide)
  obtain ⟨step, hp1, hp2⟩ := nat16 (first.fdiv 64 + 1) 16 (by decide)
  obtain ⟨ring, hr1, hr2⟩ := nat16 first 4 (by decide)
  obtain ⟨lead, hd1, hd2⟩ := nat16 (first.fdiv 1024 + 1) 4 (by decide)
  refine' enterC [(Str.ofString "first", .int first t1), (Str.ofString "numbers", .ref l)] ?k1 ?k2 ?k3 ?k6 ?k7 ?k8 ?k9 ?kB ?c5 ?_ ?c2 ?c3 ?c4; (case k1 => k_asm); (case k2 => first | assumption | exact fun _ _ e => e); (case k3 => exact Top.nolimit (by assumption)); (case k6 => k_is); (case k7 => k_is); (case k8 => (dsimp only [Ar]; omega)); (case k9 => exact BindsTo.of_eq rfl); (case c5 => decide); (case kB => exact rfl); (case c2 => exact rfl); (case c3 => exact rfl); (case c4 => exact rfl); k_whole; intro h₁ tk cells F N Y; k_cells Y; (try k_unmd); (try dsimp only); k_fold
  walk_at "my go"
  rename _ = Data.cell (some (Value.int ((first.fdiv 4).fmod 16) _)) => dS
  rename _ = Data.cell (some (Value.int ((first.fdiv 64 + 1).fmod 16) _)) => dP
  rename Fr _ _ _ _ => F
  rename News _ _ _ _ => N
  rw [hs1] at dS
  rw [hp1] at dP
  rw [hs1, hp1]
  dsimp only at dS dP
  have hF := F
  refine' useK F N (c_stretches X T ?k5 ?hA ?hu l vs ns start step _ _ ?k6 hi (by omega) (by omega) (by omega)) ?_
  case k5 => exact F.keep
  case k6 => exact lst_up hl F
  case hA => dsimp only [Ar, Around.deeper]; omega
  case hu => dsimp only [Ar, Around.deeper]; omega
  clear F N
  intro v' h' tk' K' F N hP
  obtain ⟨ys, ⟨lst, n0, rfl, hl0, hl1⟩, hys, hyj⟩ := hP
  dsimp only at hl0 hyj
  obtain ⟨tl, Ntl, htl⟩ := led (h₀ := s.heap) (h' := h') (L := s.heap.objs.size) (ys := ys) (f := strAt start step ns) ns.length (fun j hj => by
    obtain ⟨a, u1, u2, u3, g1, g2, g3⟩ := hyj j hj
    exact ⟨a, u1, u2, u3, g1, ne_frame hF g2, none_of hF.keep g2, g3⟩)
  replace N := news_put hl1 (ne_frame hF hl0) (none_of hF.keep hl0) (news_app N Ntl)
  dsimp only [List.cons_append, List.nil_append] at N
  clear Ntl hl0 hl1 hyj hF
  walk_at "my go"
  refine assign_comp (h₀ := s.heap) (fun i v made => ∃ T its n, v = .ref T ∧ (T, W.listOf its n) ∈ made ∧ IntsAre its.toList ((hoursF start step (strAt start step ns i)).map fun (n : Nat) => (n : Int))) (fun i y a b hab g => by obtain ⟨T, its, n, g1, g2, g3⟩ := g; exact ⟨T, its, n, g1, hab _ g2, g3⟩) rfl (by rfl) (by rfl) (by decide) rfl (by decide) rfl rfl (by intro _; rfl) ?_
  walk_at "my go"
  rename Fr _ _ _ _ => F
  rename News _ _ _ _ => N
  refine CA.intro (News.isList N (.head _)) (by rw [hys, sizeLine_eq]; omega) F N ?_ ?_
  · intro C i v s₃ m₃ cenv hE hv hm hk3 hC
    have hi2 : i < ns.length := by
      rw [← hys]
      exact (Array.getElem?_eq_some_iff.mp hv).1
    obtain ⟨a, u1, u2, u3, g1, g2⟩ := htl i hi2
    have ev : v = .ref a := by rw [g1] at hv; exact (Option.some.inj hv).symm
    subst ev
    have hEL : cenv.locals = C := by rw [hE]; rfl
    refine wpAny_assign_Name (wpAny_storeName_local (by rw [hE]; rfl) (by rw [hEL]; exact hm) (fun h₄ hn₄ hs₄ => ?_) (by rw [hE]; rfl))
    dsimp only at hk3 hC
    have st₄ := stays_store hk3 hEL hC hs₄
    rw [hEL] at hn₄ hs₄
    have X₄ := X.keeps (stays_trans F.keep st₄)
    have T₄ := T.keeps (stays_trans F.keep st₄)
    obtain ⟨tS, S1⟩ : ∃ t, Sees cenv h₄ (Str.ofString "start") (.int start t) := by rw [hE]; exact ⟨_, cellSees N st₄ rfl rfl rfl (.tail _ (.tail _ (.head _))) dS⟩
    obtain ⟨tP, S2⟩ : ∃ t, Sees cenv h₄ (Str.ofString "step") (.int step t) := by rw [hE]; exact ⟨_, cellSees N st₄ rfl rfl rfl (.tail _ (.head _)) dP⟩
    have S3 : Sees cenv h₄ (Str.ofString "stretch") (.ref a) := by rw [hE]; exact .loc _ rfl rfl hn₄ rfl
    have S4 : Sees cenv h₄ (Str.ofString "_law_hours") (.ref 71) := by rw [hE]; exact globSees X (T.keeps (stays_refl _)) (stays_trans F.keep st₄) rfl rfl rfl (by k_is)
    have st : h₄.StaysIn h₄ := stays_refl _
    have htup : IsTup h₄ a #[.int (strAt start step ns i).1 u1, .int (strAt start step ns i).2.1 u2, .int (strAt start step ns i).2.2 u3] := ⟨_, st₄ _ _ (N _ (.tail _ (.tail _ (.tail _ g2)))).1, rfl, _, rfl⟩
    walk_at "my go"
    refine' useS st (c_hours X₄ T₄ ?k1 ?hA ?hu a _ _ _ u1 u2 u3 start step tS tP htup (by omega) (by omega)) ?_
    case k1 => exact stays_refl _
    case hA => dsimp only [Ar, Around.deeper]; omega
    case hu => dsimp only [Ar, Around.deeper]; omega
    intro v5 h5 tk5 k5 P5
    obtain ⟨zs, ⟨T5, n5, rfl, q1, q2⟩, q3⟩ := P5
    refine ⟨h5, tk5, _, [(T5, W.listOf zs n5)], rfl, hn₄.keeps k5, fun b o hb e => k5 _ _ (hs₄.extBut b o hb e), ?_, T5, zs, n5, rfl, .head _, q3⟩
    intro p hp
    rw [List.mem_singleton.mp hp]
    exact ⟨none_back hn₄ hs₄ q1, q2⟩
  · intro D n ys2 tr h2 tk2 F' N' hoD hoT hys2 hG
    clear F N
    replace F' : Fr s.heap s.heap.objs.size h2 _ := F'
    replace N' : News s.heap s.heap.objs.size h2 _ := news_mix N'
    walk_at "my go"
    rename Fr _ _ _ _ => F
    rename News _ _ _ _ => N
    rw [hr1]
    refine' useK F N (c_walk X T ?k5 ?hA ?hu ring start step _ _ _ (by omega) (by omega) (by omega)) ?_
    case k5 => exact F.keep
    case hA => dsimp only [Ar, Around.deeper]; omega
    case hu => dsimp only [Ar, Around.deeper]; omega
    clear F N
    intro v' h' tk' K' F N hP
    obtain ⟨tw, rfl⟩ := hP
    walk_at "my go"
    rw [hr1]
    have hF := F
    refine' useK F N (c_wheel X T ?k5 ?hA ?hu ring _ (by omega)) ?_
    case k5 => exact F.keep
    case hA => dsimp only [Ar, Around.deeper]; omega
    case hu => dsimp only [Ar, Around.deeper]; omega
    clear F N
    intro v' h' tk' K' F N hP
    obtain ⟨zs, ⟨lw, nw, rfl, hw0, hw1⟩, hzs⟩ := hP
    replace N := news_put hw1 (ne_frame hF hw0) (none_of hF.keep hw0) N
    walk_at "my go"
    rw [hd1]
    refine' useK F N (c_told X T ?k5 ?hA ?hu ring (by omega) (wkOf ring start step) ?hwk lw lst D ys.toList zs.toList ys2.toList (stsOf start step ns) ((stsOf start step ns).map (hoursF start step)) lead _ _ (by omega) ?hw hzs ?hts ?hS ?hk ?hSb ?hc ?hck ?hck8 ?hcl ?hci ?hjw (hlaw ring start step (by omega) (by omega) (by omega))) ?_
    case k5 => exact F.keep
    case hA => dsimp only [Ar, Around.deeper]; omega
    case hu => dsimp only [Ar, Around.deeper]; omega
    case hwk => unfold wkOf Str.length; simp
    case hw => exact isl (News.isList N (.head _))
    case hts => exact isl (News.isList N (.tail _ (.tail _ (.head _))))
    case hS =>
      refine ⟨by rw [sts_len, Array.length_toList, hys], fun j x hx => ?_⟩
      have hj : j < ns.length := by
        have := (List.getElem?_eq_some_iff.mp hx).1
        rwa [sts_len] at this
      rw [sts_at hj] at hx
      obtain rfl := Option.some.inj hx
      obtain ⟨a, u1, u2, u3, g1, g2⟩ := htl j hj
      exact ⟨a, u1, u2, u3, by rw [← g1]; exact Array.getElem?_toList, ⟨_, (N _ (.tail _ (.tail _ (.tail _ (.tail _ (.tail _ (List.mem_append_left _ g2))))))).1, rfl, _, rfl⟩⟩
    case hk => rw [sts_len]; exact hn
    case hSb => exact sts_bounds (by omega)
    case hc => exact isl (News.isList N (.tail _ (.head _)))
    case hck => rw [List.length_map]
    case hck8 => rw [List.length_map, sts_len]; exact hn.2
    case hcl => rw [List.length_map, sts_len, Array.length_toList, hys2, hys]
    case hci =>
      intro j hs hx
      have hj : j < ns.length := by
        have := (List.getElem?_eq_some_iff.mp hx).1
        rwa [List.length_map, sts_len] at this
      rw [List.getElem?_map, sts_at hj] at hx
      obtain rfl := Option.some.inj hx
      obtain ⟨v, g1, T9, its, n9, g2, g3, g4⟩ := hG j (by rw [hys]; exact hj)
      refine ⟨hours_len _ _ _, hours_lt, T9, its, by rw [← g2, ← g1]; exact Array.getElem?_toList, News.isList N (.tail _ (.tail _ (.tail _ (.tail _ (.tail _ (List.mem_append_right _ g3)))))), g4⟩
    case hjw => intro sh cd; exact ps_weight (fun x hx => (sts_bounds (by omega) x hx).2.2) (by rw [sts_len]; exact hn.2)
    clear F N
    intro v' h' tk' K' F N hP
    subst hP
    exact Post.intro F rfl

end
section
local macro_rules | `(tactic| walk_at "binaryOp Mod float float") => `(tactic| (refine AutoFloatOps.mod_1 (by decide +kernel) ?_; dsimp only [Made.post]))
local macro_rules | `(tactic| walk_at "my bar") => `(tactic| (
  (fail_if_success (with_reducible show wpAny _ _ (pyIter _) _ _ _)); (fail_if_success (with_reducible show wpAny _ _ (exec (Stmt.For _ _ _ _ _) _) _ _ _)); (fail_if_success (with_reducible show wpAny _ _ (eval (Expr.ListComp _ _ _ _) _) _ _ _)); (fail_if_success (with_reducible show wpAny _ _ (exec (Stmt.Assign _ (Expr.ListComp _ _ _ _) _) _) _ _ _))))
local macro_rules | `(tactic| walk_at "my go") => `(tactic| repeat' (first | (k_unfold; (try dsimp only)) | (walk_at "my bar"; walk1) | (walk_at "my bar"; dsimp only; walk_at "my bar"; walk1)))
local macro_rules | `(tactic| walk_at "my for") => `(tactic| (refine' forV ?k1 ?k2 ?k3 ?k4 ?_; (case k1 => k_asm); (case k2 => rfl); (case k3 => rfl); (case k4 => (intro _; rfl)); (try k_fold)))
local macro_rules | `(tactic| walk_at "eval Name") => `(tactic| (refine' Sees.at ?k1 ?k2 ?_ ?k3; (case k1 => assumption); (case k2 => assumption); (case k3 => decide)))
local macro_rules | `(tactic| walk_at "binaryOp Div int float") => `(tactic| (refine AutoFloatOps.truediv_if_2 (Float64.ofInt_fits (by assumption)) (by decide +kernel) ?_; dsimp only [Made.post]))
local macro_rules | `(tactic| walk_at "call ref") => `(tactic| ((with_reducible show wpAny _ _ (call (Value.ref 35) _) _ _ _); refine' useK ?k1 ?k2 (c_v ?k3 ?k4 ?k5 ?k6 _ _ _ _ _ _) ?_; (case k1 => k_asm); (case k2 => k_asm); (case k3 => k_asm); (case k4 => assumption); (case k5 => exact Fr.keep (by k_asm)); (case k6 => (dsimp only [Ar, Around.deeper]; omega)); intro v' h' tk' K' F' N' P'; obtain ⟨t', P'⟩ := P'; subst P'; (try k_sweep)))
local macro_rules | `(tactic| walk_at "call type:int") => `(tactic| ((with_reducible show wpAny _ _ (call (Value.type "int") [Value.float _ _]) _ _ _); refine int_fin (by assumption) ?_))
local macro_rules | `(tactic| walk_at "binaryOp Sub float int") => `(tactic| ((with_reducible show wpAny _ _ (binaryOp Operator.Sub (Value.float _ _) (Value.int _ _)) _ _ _); refine sub_fi_fits (by assumption) ?_))
local macro_rules | `(tactic| walk_at "call ref") => `(tactic| ((with_reducible show wpAny _ _ (call (Value.ref 42) _) _ _ _); refine' useS ?k1 (c_hsv ?k3 ?k4 ?k1 ?k6 _ _ _ _ _ _ ?k7 ?k8) ?_; (case k1 => assumption); (case k3 => assumption); (case k4 => assumption); (case k6 => (dsimp only [Ar, Around.deeper]; omega)); (case k7 => assumption); (case k8 => assumption); intro v' h' tk' st' P'; (have X' := Frag.In.keeps (by assumption) st'); obtain ⟨l', t1', t2', t3', P', hl'⟩ := P'; subst P'))
local macro_rules | `(tactic| walk_at "call ref") => `(tactic| ((with_reducible show wpAny _ _ (call (Value.ref 28) _) _ _ _); refine' useS ?k1 (c_hls ?k3 ?k4 ?k1 ?k6 _ _ _ _ _ _) ?_; (case k1 => assumption); (case k3 => assumption); (case k4 => assumption); (case k6 => (dsimp only [Ar, Around.deeper]; omega)); intro v' h' tk' st' P'; (have X' := Frag.In.keeps (by assumption) st'); obtain ⟨l', t1', t2', t3', P', hl'⟩ := P'; subst P'))
local macro_rules | `(tactic| walk_at "call ref") => `(tactic| ((with_reducible show wpAny _ _ (call (Value.ref 49) _) _ _ _); refine' useS ?k1 (c_sign ?k3 ?k4 ?k1 ?k6 _ _ _ _ _ _ _ ?k7 ?k8 ?k9 ?k10) ?_; (case k1 => assumption); (case k3 => assumption); (case k4 => assumption); (case k6 => (dsimp only [Ar, Around.deeper]; omega)); (case k7 => assumption); (case k8 => assumption); (case k9 => assumption); (case k10 => assumption); intro v' h' tk' st' P'; (have X' := Frag.In.keeps (by assumption) st'); obtain ⟨t', P'⟩ := P'; subst P'))
local macro_rules | `(tactic| walk_at "subscriptTail Name Name ref int") => `(tactic| (refine' item_litK ?k1 ?k2 ?k3 ?k4 ?_ ?k6; (case k4 => assumption); (case k1 => (refine' lst_up ?a1 ?a2; (case a1 => assumption); (case a2 => assumption))); (case k2 => omega); (case k3 => omega); (case k6 => with_unfolding_all rfl)))
local macro_rules | `(tactic| walk_at "truthy str") => `(tactic| refine P.truthy_str (by omega) ?_)
local macro_rules | `(tactic| walk_at "my go assert") => `(tactic| repeat' (first | (k_unfold; (try dsimp only)) | (walk_at "my bar"; (fail_if_success (with_reducible show wpAny _ _ (exec (Stmt.Assert _ _ _) _) _ _ _)); walk1) | (walk_at "my bar"; (fail_if_success (with_reducible show wpAny _ _ (exec (Stmt.Assert _ _ _) _) _ _ _)); dsimp only; walk_at "my bar"; (fail_if_success (with_reducible show wpAny _ _ (exec (Stmt.Assert _ _ _) _) _ _ _)); walk1)))
local macro_rules | `(tactic| walk_at "subscriptTail Name Constant ref int") => `(tactic| (refine' item_litK ?k1 ?k2 ?k3 ?k4 ?_ ?k6; (case k4 => assumption); (case k1 => exact News.isList (by assumption) (by k_mem)); (case k2 => decide); (case k3 => decide); (case k6 => with_unfolding_all rfl)))
local macro_rules | `(tactic| walk_at "subscriptTail Name UnaryOp ref int") => `(tactic| (refine' item_last ?k1 ?_ ?k6 ?k7; (case k1 => exact News.isList (by assumption) (by k_mem)); (case k6 => with_unfolding_all rfl); (case k7 => (intro _; with_unfolding_all rfl))))
local macro_rules | `(tactic| walk_at "call builtin:str.find") => `(tactic| ((with_reducible show wpAny _ _ (call (Value.builtin _) [_, _, _, _]) _ _ _); refine find4 (by omega) ?_))
local macro_rules | `(tactic| walk_at "subscriptTail Name BinOp ref int") => `(tactic| (refine' item_litK ?k1 ?k2 ?k3 ?k4 ?_ ?k6; (case k4 => assumption); (case k1 => assumption); (case k2 => omega); (case k3 => omega); (case k6 => with_unfolding_all rfl)))
local macro_rules | `(tactic| walk_at "binaryOp Add ref ref") => `(tactic| (refine' add_arrays ?k1 ?k2 ?k3 ?k4 ?_ ?k5; (case k1 => k_asm); (case k2 => k_asm); (case k3 => exact News.isList (by assumption) (by k_mem)); (case k4 => exact News.isList (by assumption) (by k_mem)); (case k5 => (rw [sizeLine_eq]; simp; omega)); intro h' F' N'; (try k_sweep)))
local macro_rules | `(tactic| walk_at "subscriptTail Name UnaryOp ref int") => `(tactic| (refine' item_last ?k1 ?_ ?k6 ?k7; (case k1 => (refine' lst_up ?a1 ?a2; (case a1 => assumption); (case a2 => assumption))); (case k6 => with_unfolding_all rfl); (case k7 => (intro _; with_unfolding_all rfl))))
section
open Builtin Builtin.Str
theorem range_before {lo n a : Nat} {pre post : List Nat} (h : List.range' lo n = pre ++ a :: post) : ∀ k, lo ≤ k → k < a → k ∈ pre := by
  intro k h1 h2
  have ha : a ∈ List.range' lo n := by rw [h]; simp
  have hk : k ∈ List.range' lo n := by
    rw [List.mem_range'_1] at ha ⊢
    omega
  have hs : List.Pairwise (· < ·) (List.range' lo n) := List.pairwise_lt_range'
  rw [h] at hk hs
  rcases List.mem_append.mp hk with h3 | h3
  · exact h3
  · rcases List.mem_cons.mp h3 with h4 | h4
    · omega
    · have h5 := (List.pairwise_cons.mp (List.pairwise_append.mp hs).2.1).1 k h4
      omega
theorem occ_headG (x y : Str) (lo hi : Nat) :
    (occurrences x y lo hi 1 = [] ∧ ∀ i, lo ≤ i → ¬ StrLaws.At x y hi i) ∨ ∃ i r, occurrences x y lo hi 1 = i :: r ∧ lo ≤ i ∧ StrLaws.At x y hi i ∧ ∀ k, lo ≤ k → k < i → ¬ StrLaws.At x y hi k := by
  rw [StrLaws.occ_eq]
  rcases StrLaws.occ_first x y hi 1 (Nat.le_refl _) (List.range' lo (hi + 1 - lo)) lo (fun i hi' => (List.mem_range'_1.mp hi').1) with ⟨h0, hn⟩ | ⟨pre, a, post, e, h0, ha, hn⟩
  · refine .inl ⟨by rw [h0], fun i hi' hA => ?_⟩
    exact hn i (by have := hA.1; rw [List.mem_range'_1]; omega) hA
  · refine .inr ⟨a, ((forIn (List.range' lo (hi + 1 - lo)) ((#[] : Array Nat), lo) (StrLaws.occBody x y hi 1)).run.fst.toList).tail, ?_, ?_, ha, fun k hk1 hk => hn k (range_before e k hk1 hk)⟩
    · generalize (forIn (List.range' lo (hi + 1 - lo)) ((#[] : Array Nat), lo) (StrLaws.occBody x y hi 1)).run.fst = arr at h0
      have h1 : arr.toList[0]? = some a := by simpa using h0
      cases hL : arr.toList with
      | nil => rw [hL] at h1; cases h1
      | cons b t => rw [hL] at h1; simp at h1; rw [h1]; rfl
    · have : a ∈ List.range' lo (hi + 1 - lo) := by rw [e]; simp
      exact (List.mem_range'_1.mp this).1
theorem find_none {x y : Str} {lo hi : Nat} (h : ∀ i, lo ≤ i → ¬ StrLaws.At x y hi i) : findF x y lo hi = -1 := by
  unfold findF
  rcases occ_headG x y lo hi with ⟨e, _⟩ | ⟨i, r, e, h1, h2, _⟩
  · rw [e]
  · exact absurd h2 (h i h1)
theorem find_at {x y : Str} {lo hi q : Nat} (h0 : lo ≤ q) (h : StrLaws.At x y hi q) (hn : ∀ i, lo ≤ i → i < q → ¬ StrLaws.At x y hi i) : findF x y lo hi = (q : Int) := by
  unfold findF
  rcases occ_headG x y lo hi with ⟨_, e⟩ | ⟨i, r, e, h1, h2, h3⟩
  · exact absurd h (e q h0)
  · rw [e]
    have : i = q := by
      rcases Nat.lt_trichotomy i q with g | g | g
      · exact absurd h2 (hn i h1 g)
      · exact g
      · exact absurd h (h3 q h0 g)
    rw [this]
theorem find_empty {x y : Str} {lo hi : Nat} (hy : y.length = 0) (h : lo ≤ hi) : findF x y lo hi = (lo : Int) := by
  refine find_at (Nat.le_refl _) ⟨by omega, ?_⟩ fun i h1 h2 => by omega
  rw [StrLaws.subAt_eq, hy]
  have : y.cps.toList = [] := by
    unfold Str.length at hy
    simpa using hy
  rw [this]
  rfl
end

end
section
local macro_rules | `(tactic| walk_at "binaryOp Mod float float") => `(tactic| (refine AutoFloatOps.mod_1 (by decide +kernel) ?_; dsimp only [Made.post]))
local macro_rules | `(tactic| walk_at "my bar") => `(tactic| (
  (fail_if_success (with_reducible show wpAny _ _ (pyIter _) _ _ _)); (fail_if_success (with_reducible show wpAny _ _ (exec (Stmt.For _ _ _ _ _) _) _ _ _)); (fail_if_success (with_reducible show wpAny _ _ (eval (Expr.ListComp _ _ _ _) _) _ _ _)); (fail_if_success (with_reducible show wpAny _ _ (exec (Stmt.Assign _ (Expr.ListComp _ _ _ _) _) _) _ _ _))))
local macro_rules | `(tactic| walk_at "my go") => `(tactic| repeat' (first | (k_unfold; (try dsimp only)) | (walk_at "my bar"; walk1) | (walk_at "my bar"; dsimp only; walk_at "my bar"; walk1)))
local macro_rules | `(tactic| walk_at "my for") => `(tactic| (refine' forV ?k1 ?k2 ?k3 ?k4 ?_; (case k1 => k_asm); (case k2 => rfl); (case k3 => rfl); (case k4 => (intro _; rfl)); (try k_fold)))
local macro_rules | `(tactic| walk_at "eval Name") => `(tactic| (refine' Sees.at ?k1 ?k2 ?_ ?k3; (case k1 => assumption); (case k2 => assumption); (case k3 => decide)))
local macro_rules | `(tactic| walk_at "binaryOp Div int float") => `(tactic| (refine AutoFloatOps.truediv_if_2 (Float64.ofInt_fits (by assumption)) (by decide +kernel) ?_; dsimp only [Made.post]))
local macro_rules | `(tactic| walk_at "call ref") => `(tactic| ((with_reducible show wpAny _ _ (call (Value.ref 35) _) _ _ _); refine' useK ?k1 ?k2 (c_v ?k3 ?k4 ?k5 ?k6 _ _ _ _ _ _) ?_; (case k1 => k_asm); (case k2 => k_asm); (case k3 => k_asm); (case k4 => assumption); (case k5 => exact Fr.keep (by k_asm)); (case k6 => (dsimp only [Ar, Around.deeper]; omega)); intro v' h' tk' K' F' N' P'; obtain ⟨t', P'⟩ := P'; subst P'; (try k_sweep)))
local macro_rules | `(tactic| walk_at "call type:int") => `(tactic| ((with_reducible show wpAny _ _ (call (Value.type "int") [Value.float _ _]) _ _ _); refine int_fin (by assumption) ?_))
local macro_rules | `(tactic| walk_at "binaryOp Sub float int") => `(tactic| ((with_reducible show wpAny _ _ (binaryOp Operator.Sub (Value.float _ _) (Value.int _ _)) _ _ _); refine sub_fi_fits (by assumption) ?_))
local macro_rules | `(tactic| walk_at "call ref") => `(tactic| ((with_reducible show wpAny _ _ (call (Value.ref 42) _) _ _ _); refine' useS ?k1 (c_hsv ?k3 ?k4 ?k1 ?k6 _ _ _ _ _ _ ?k7 ?k8) ?_; (case k1 => assumption); (case k3 => assumption); (case k4 => assumption); (case k6 => (dsimp only [Ar, Around.deeper]; omega)); (case k7 => assumption); (case k8 => assumption); intro v' h' tk' st' P'; (have X' := Frag.In.keeps (by assumption) st'); obtain ⟨l', t1', t2', t3', P', hl'⟩ := P'; subst P'))
local macro_rules | `(tactic| walk_at "call ref") => `(tactic| ((with_reducible show wpAny _ _ (call (Value.ref 28) _) _ _ _); refine' useS ?k1 (c_hls ?k3 ?k4 ?k1 ?k6 _ _ _ _ _ _) ?_; (case k1 => assumption); (case k3 => assumption); (case k4 => assumption); (case k6 => (dsimp only [Ar, Around.deeper]; omega)); intro v' h' tk' st' P'; (have X' := Frag.In.keeps (by assumption) st'); obtain ⟨l', t1', t2', t3', P', hl'⟩ := P'; subst P'))
local macro_rules | `(tactic| walk_at "call ref") => `(tactic| ((with_reducible show wpAny _ _ (call (Value.ref 49) _) _ _ _); refine' useS ?k1 (c_sign ?k3 ?k4 ?k1 ?k6 _ _ _ _ _ _ _ ?k7 ?k8 ?k9 ?k10) ?_; (case k1 => assumption); (case k3 => assumption); (case k4 => assumption); (case k6 => (dsimp only [Ar, Around.deeper]; omega)); (case k7 => assumption); (case k8 => assumption); (case k9 => assumption); (case k10 => assumption); intro v' h' tk' st' P'; (have X' := Frag.In.keeps (by assumption) st'); obtain ⟨t', P'⟩ := P'; subst P'))
local macro_rules | `(tactic| walk_at "subscriptTail Name Name ref int") => `(tactic| (refine' item_litK ?k1 ?k2 ?k3 ?k4 ?_ ?k6; (case k4 => assumption); (case k1 => (refine' lst_up ?a1 ?a2; (case a1 => assumption); (case a2 => assumption))); (case k2 => omega); (case k3 => omega); (case k6 => with_unfolding_all rfl)))
local macro_rules | `(tactic| walk_at "truthy str") => `(tactic| refine P.truthy_str (by omega) ?_)
local macro_rules | `(tactic| walk_at "my go assert") => `(tactic| repeat' (first | (k_unfold; (try dsimp only)) | (walk_at "my bar"; (fail_if_success (with_reducible show wpAny _ _ (exec (Stmt.Assert _ _ _) _) _ _ _)); walk1) | (walk_at "my bar"; (fail_if_success (with_reducible show wpAny _ _ (exec (Stmt.Assert _ _ _) _) _ _ _)); dsimp only; walk_at "my bar"; (fail_if_success (with_reducible show wpAny _ _ (exec (Stmt.Assert _ _ _) _) _ _ _)); walk1)))
local macro_rules | `(tactic| walk_at "subscriptTail Name Constant ref int") => `(tactic| (refine' item_litK ?k1 ?k2 ?k3 ?k4 ?_ ?k6; (case k4 => assumption); (case k1 => exact News.isList (by assumption) (by k_mem)); (case k2 => decide); (case k3 => decide); (case k6 => with_unfolding_all rfl)))
local macro_rules | `(tactic| walk_at "subscriptTail Name UnaryOp ref int") => `(tactic| (refine' item_last ?k1 ?_ ?k6 ?k7; (case k1 => exact News.isList (by assumption) (by k_mem)); (case k6 => with_unfolding_all rfl); (case k7 => (intro _; with_unfolding_all rfl))))
local macro_rules | `(tactic| walk_at "call builtin:str.find") => `(tactic| ((with_reducible show wpAny _ _ (call (Value.builtin _) [_, _, _, _]) _ _ _); refine find4 (by omega) ?_))
local macro_rules | `(tactic| walk_at "subscriptTail Name BinOp ref int") => `(tactic| (refine' item_litK ?k1 ?k2 ?k3 ?k4 ?_ ?k6; (case k4 => assumption); (case k1 => assumption); (case k2 => omega); (case k3 => omega); (case k6 => with_unfolding_all rfl)))
local macro_rules | `(tactic| walk_at "binaryOp Add ref ref") => `(tactic| (refine' add_arrays ?k1 ?k2 ?k3 ?k4 ?_ ?k5; (case k1 => k_asm); (case k2 => k_asm); (case k3 => exact News.isList (by assumption) (by k_mem)); (case k4 => exact News.isList (by assumption) (by k_mem)); (case k5 => (rw [sizeLine_eq]; simp; omega)); intro h' F' N'; (try k_sweep)))
local macro_rules | `(tactic| walk_at "subscriptTail Name UnaryOp ref int") => `(tactic| (refine' item_last ?k1 ?_ ?k6 ?k7; (case k1 => (refine' lst_up ?a1 ?a2; (case a1 => assumption); (case a2 => assumption))); (case k6 => with_unfolding_all rfl); (case k7 => (intro _; with_unfolding_all rfl))))
section
open Builtin Builtin.Str
theorem dots_cps : (Str.ofString "...").cps = #[46, 46, 46] := by decide +kernel
theorem dots_len : (Str.ofString "...").length = 3 := by unfold Str.length; rw [dots_cps]; rfl
def cutsF : Nat → List Str → List Nat
  | _, [] => []
  | _, [_] => []
  | o, p :: q :: r => (o + p.length) :: cutsF (o + p.length + 3) (q :: r)
def codesF : List Str → List Nat
  | [] => []
  | [p] => p.cps.toList
  | p :: q :: r => p.cps.toList ++ ([46, 46, 46] ++ codesF (q :: r))
theorem join_codes (ps : List Str) : (Txt.join (Str.ofString "...") ps).cps.toList = codesF ps := by
  unfold Txt.join
  rw [StrLaws.glued_eq_join]
  induction ps with
  | nil => rfl
  | cons p r ih =>
    cases r with
    | nil => rfl
    | cons q r =>
      rw [join_cons2, Str.cps_append, Str.cps_append, dots_cps]
      unfold codesF
      rw [← ih]
      simp
def occStep (x y : Str) (hi lim : Nat) (st : Array Nat × Nat) (i : Nat) : Array Nat × Nat := if ((st.fst.size < lim ∧ st.snd ≤ i) ∧ i + y.length ≤ hi) ∧ subAt x y i = true then (st.fst.push i, i + y.length) else st
theorem occ_fold (x y : Str) (hi lim : Nat) : ∀ (l : List Nat) (st : Array Nat × Nat), (forIn (m := Id) l st (StrLaws.occBody x y hi lim)).run = l.foldl (occStep x y hi lim) st
  | [], _ => rfl
  | a :: l, st => by
    rw [List.forIn_cons, List.foldl_cons, ← occ_fold x y hi lim l]
    unfold StrLaws.occBody occStep
    split <;> rfl
theorem occ_skip {x y : Str} {hi lim : Nat} {st : Array Nat × Nat} : ∀ l : List Nat, (∀ i ∈ l, ¬ (st.2 ≤ i ∧ i + y.length ≤ hi ∧ subAt x y i = true)) → l.foldl (occStep x y hi lim) st = st
  | [], _ => rfl
  | a :: l, h => by
    have e : occStep x y hi lim st a = st := by
      unfold occStep
      rw [if_neg]
      intro c
      exact h a (.head _) ⟨c.1.1.2, c.1.2, c.2⟩
    rw [List.foldl_cons, e]
    exact occ_skip l fun i hi' => h i (.tail _ hi')
theorem dot_at {x : Str} {i : Nat} (h : subAt x (Str.ofString "...") i = true) : x.cps.toList[i]? = some 46 := by
  rw [StrLaws.subAt_eq, dots_len, dots_cps, beq_iff_eq] at h
  have h1 := congrArg (fun l => l[0]?) h
  simp at h1
  simpa using h1
theorem codes_len (p q : Str) (r : List Str) : (codesF (p :: q :: r)).length = p.length + 3 + (codesF (q :: r)).length := by
  show (p.cps.toList ++ ([46, 46, 46] ++ codesF (q :: r))).length = _
  simp only [List.length_append, Str.length, Array.length_toList, List.length_cons, List.length_nil]
  omega
theorem occ_cuts {x : Str} {lim : Nat} : ∀ (ps : List Str) (o : Nat) (arr : Array Nat), ps ≠ [] → (∀ p ∈ ps, ∀ c ∈ p.cps.toList, 256 ≤ c) → x.cps.toList.drop o = codesF ps → o ≤ x.length → arr.size + (cutsF o ps).length ≤ lim →
    ((List.range' o (x.length + 1 - o)).foldl (occStep x (Str.ofString "...") x.length lim) (arr, o)).1 = arr ++ (cutsF o ps).toArray
  | [], _, _, h, _, _, _, _ => absurd rfl h
  | [p], o, arr, _, hc, hd, ho, _ => by
    rw [occ_skip]
    · simp [cutsF]
    · rintro i hi ⟨h1, h2, h3⟩
      have h4 := dot_at h3
      have h5 : x.cps.toList[i]? = (x.cps.toList.drop o)[i - o]? := by rw [List.getElem?_drop]; congr 1; dsimp only at h1; omega
      rw [h5, hd] at h4
      have := hc p (.head _) 46 (List.mem_of_getElem? h4)
      omega
  | p :: q :: r, o, arr, _, hc, hd, ho, hl => by
    have hL : x.length - o = p.length + 3 + (codesF (q :: r)).length := by
      rw [← codes_len, ← hd, List.length_drop]
      rfl
    have hd1 : x.cps.toList.drop (o + p.length) = [46, 46, 46] ++ codesF (q :: r) := by
      rw [← List.drop_drop, hd]
      show (p.cps.toList ++ ([46, 46, 46] ++ codesF (q :: r))).drop p.length = _
      rw [List.drop_left' (by rfl)]
    have hd2 : x.cps.toList.drop (o + p.length + 3) = codesF (q :: r) := by
      rw [← List.drop_drop, hd1]
      rfl
    have hr : List.range' o (x.length + 1 - o) = List.range' o p.length ++ ((o + p.length) :: (o + p.length + 1) :: (o + p.length + 2) :: List.range' (o + p.length + 3) (x.length + 1 - (o + p.length + 3))) := by
      have e : x.length + 1 - o = p.length + ((x.length + 1 - (o + p.length + 3)) + 1 + 1 + 1) := by omega
      rw [e, ← List.range'_append_1]
      rfl
    rw [hr, List.foldl_append, occ_skip (st := (arr, o))]
    · have hs : subAt x (Str.ofString "...") (o + p.length) = true := by
        rw [StrLaws.subAt_eq, dots_len, dots_cps, hd1]
        rfl
      have hlen : (cutsF o (p :: q :: r)).length = (cutsF (o + p.length + 3) (q :: r)).length + 1 := rfl
      have e1 : occStep x (Str.ofString "...") x.length lim (arr, o) (o + p.length) = (arr.push (o + p.length), o + p.length + 3) := by
        unfold occStep
        rw [if_pos ⟨⟨⟨by dsimp only; omega, by dsimp only; omega⟩, by rw [dots_len]; omega⟩, hs⟩, dots_len]
      have e2 : occStep x (Str.ofString "...") x.length lim (arr.push (o + p.length), o + p.length + 3) (o + p.length + 1) = (arr.push (o + p.length), o + p.length + 3) := by
        unfold occStep
        rw [if_neg (by intro c; have := c.1.1.2; dsimp only at this; omega)]
      have e3 : occStep x (Str.ofString "...") x.length lim (arr.push (o + p.length), o + p.length + 3) (o + p.length + 2) = (arr.push (o + p.length), o + p.length + 3) := by
        unfold occStep
        rw [if_neg (by intro c; have := c.1.1.2; dsimp only at this; omega)]
      rw [List.foldl_cons, List.foldl_cons, List.foldl_cons, e1, e2, e3, occ_cuts (q :: r) (o + p.length + 3) (arr.push (o + p.length)) (by simp) (fun p' hp' => hc p' (.tail _ hp')) hd2 (by omega) (by rw [Array.size_push]; omega)]
      simp [cutsF]
    · rintro i hi ⟨h1, h2, h3⟩
      have h4 := dot_at h3
      have hi' := List.mem_range'_1.mp hi
      have h5 : x.cps.toList[i]? = (x.cps.toList.drop o)[i - o]? := by rw [List.getElem?_drop]; congr 1; omega
      rw [h5, hd] at h4
      have h6 : (codesF (p :: q :: r))[i - o]? = p.cps.toList[i - o]? := by
        show (p.cps.toList ++ ([46, 46, 46] ++ codesF (q :: r)))[i - o]? = _
        rw [List.getElem?_append_left (by simp only [Array.length_toList]; unfold Str.length at hi'; omega)]
      rw [h6] at h4
      have := hc p (.head _) 46 (List.mem_of_getElem? h4)
      omega
theorem parts_cuts {x : Str} : ∀ (ps : List Str) (o : Nat), ps ≠ [] → x.cps.toList.drop o = codesF ps → o ≤ x.length →
    ((o :: (cutsF o ps).map (· + 3)).zip (cutsF o ps ++ [x.length])).map (fun (ij : Nat × Nat) => strSub x ij.1 ij.2) = ps
  | [], _, h, _, _ => absurd rfl h
  | [p], o, _, hd, ho => by
    show [strSub x o x.length] = [p]
    congr 1
    apply Str.ext'
    apply Array.toList_inj.mp
    rw [StrLaws.strSub_toList, hd, List.take_of_length_le]
    · rfl
    · rw [← hd, List.length_drop]; exact Nat.le_refl _
  | p :: q :: r, o, _, hd, ho => by
    have hL : x.length - o = p.length + 3 + (codesF (q :: r)).length := by
      rw [← codes_len, ← hd, List.length_drop]
      rfl
    have hd1 : x.cps.toList.drop (o + p.length) = [46, 46, 46] ++ codesF (q :: r) := by
      rw [← List.drop_drop, hd]
      show (p.cps.toList ++ ([46, 46, 46] ++ codesF (q :: r))).drop p.length = _
      rw [List.drop_left' (by rfl)]
    have hd2 : x.cps.toList.drop (o + p.length + 3) = codesF (q :: r) := by
      rw [← List.drop_drop, hd1]
      rfl
    have ih := parts_cuts (q :: r) (o + p.length + 3) (by simp) hd2 (by omega)
    show strSub x o (o + p.length) :: (((o + p.length + 3) :: (cutsF (o + p.length + 3) (q :: r)).map (· + 3)).zip (cutsF (o + p.length + 3) (q :: r) ++ [x.length])).map (fun (ij : Nat × Nat) => strSub x ij.1 ij.2) = p :: q :: r
    rw [ih]
    congr 1
    apply Str.ext'
    apply Array.toList_inj.mp
    rw [StrLaws.strSub_toList, hd, Nat.add_sub_cancel_left]
    show (p.cps.toList ++ ([46, 46, 46] ++ codesF (q :: r))).take p.length = _
    rw [List.take_left' (by rfl)]
theorem cuts_le : ∀ (ps : List Str) (o : Nat), (cutsF o ps).length ≤ (codesF ps).length
  | [], _ => Nat.le_refl _
  | [_], _ => Nat.zero_le _
  | p :: q :: r, o => by
    have := cuts_le (q :: r) (o + p.length + 3)
    rw [codes_len]
    show (cutsF (o + p.length + 3) (q :: r)).length + 1 ≤ _
    omega
theorem split_join {p q : Str} {r : List Str} (hc : ∀ y ∈ p :: q :: r, ∀ c ∈ y.cps.toList, 256 ≤ c) :
    Txt.split (Txt.join (Str.ofString "...") (p :: q :: r)) (Str.ofString "...") = p :: q :: r ∧ (occurrences (Txt.join (Str.ofString "...") (p :: q :: r)) (Str.ofString "...") 0 (Txt.join (Str.ofString "...") (p :: q :: r)).length 1).isEmpty = false := by
  have hj := join_codes (p :: q :: r)
  generalize Txt.join (Str.ofString "...") (p :: q :: r) = x at hj
  have hlen : x.length = (codesF (p :: q :: r)).length := by rw [← hj]; rfl
  have hcl := codes_len p q r
  have h0 : occurrences x (Str.ofString "...") 0 x.length (x.length + 1) = cutsF 0 (p :: q :: r) := by
    rw [StrLaws.occ_eq, occ_fold, occ_cuts (p :: q :: r) 0 #[] (by simp) hc (by rw [List.drop_zero]; exact hj) (Nat.zero_le _) (by have := cuts_le (p :: q :: r) 0; simp; omega)]
    simp
  constructor
  · unfold Txt.split
    rw [if_neg, h0, if_neg]
    · unfold partsBetween
      rw [dots_len]
      exact parts_cuts (p :: q :: r) 0 (by simp) (by rw [List.drop_zero]; exact hj) (Nat.zero_le _)
    · simp [cutsF]
    · rw [dots_len]
      have k1 : Builtin.Str.strKind (Str.ofString "...") = 1 := by decide +kernel
      have k2 : 1 ≤ Builtin.Str.strKind x := by unfold Builtin.Str.strKind; split <;> (try split) <;> decide
      rw [k1]
      simp
      omega
  · rcases occ_headG x (Str.ofString "...") 0 x.length with ⟨_, e⟩ | ⟨i, t, e, _⟩
    · refine absurd ?_ (e p.length (Nat.zero_le _))
      refine ⟨by rw [dots_len]; omega, ?_⟩
      rw [StrLaws.subAt_eq, dots_len, dots_cps, hj]
      show ((p.cps.toList ++ ([46, 46, 46] ++ codesF (q :: r))).drop p.length).take 3 == _
      rw [List.drop_left' (by rfl)]
      rfl
    · rw [e]; rfl
end

end
section
local macro_rules | `(tactic| walk_at "binaryOp Mod float float") => `(tactic| (refine AutoFloatOps.mod_1 (by decide +kernel) ?_; dsimp only [Made.post]))
local macro_rules | `(tactic| walk_at "my bar") => `(tactic| (
  (fail_if_success (with_reducible show wpAny _ _ (pyIter _) _ _ _)); (fail_if_success (with_reducible show wpAny _ _ (exec (Stmt.For _ _ _ _ _) _) _ _ _)); (fail_if_success (with_reducible show wpAny _ _ (eval (Expr.ListComp _ _ _ _) _) _ _ _)); (fail_if_success (with_reducible show wpAny _ _ (exec (Stmt.Assign _ (Expr.ListComp _ _ _ _) _) _) _ _ _))))
local macro_rules | `(tactic| walk_at "my go") => `(tactic| repeat' (first | (k_unfold; (try dsimp only)) | (walk_at "my bar"; walk1) | (walk_at "my bar"; dsimp only; walk_at "my bar"; walk1)))
local macro_rules | `(tactic| walk_at "my for") => `(tactic| (refine' forV ?k1 ?k2 ?k3 ?k4 ?_; (case k1 => k_asm); (case k2 => rfl); (case k3 => rfl); (case k4 => (intro _; rfl)); (try k_fold)))
local macro_rules | `(tactic| walk_at "eval Name") => `(tactic| (refine' Sees.at ?k1 ?k2 ?_ ?k3; (case k1 => assumption); (case k2 => assumption); (case k3 => decide)))
local macro_rules | `(tactic| walk_at "binaryOp Div int float") => `(tactic| (refine AutoFloatOps.truediv_if_2 (Float64.ofInt_fits (by assumption)) (by decide +kernel) ?_; dsimp only [Made.post]))
local macro_rules | `(tactic| walk_at "call ref") => `(tactic| ((with_reducible show wpAny _ _ (call (Value.ref 35) _) _ _ _); refine' useK ?k1 ?k2 (c_v ?k3 ?k4 ?k5 ?k6 _ _ _ _ _ _) ?_; (case k1 => k_asm); (case k2 => k_asm); (case k3 => k_asm); (case k4 => assumption); (case k5 => exact Fr.keep (by k_asm)); (case k6 => (dsimp only [Ar, Around.deeper]; omega)); intro v' h' tk' K' F' N' P'; obtain ⟨t', P'⟩ := P'; subst P'; (try k_sweep)))
local macro_rules | `(tactic| walk_at "call type:int") => `(tactic| ((with_reducible show wpAny _ _ (call (Value.type "int") [Value.float _ _]) _ _ _); refine int_fin (by assumption) ?_))
local macro_rules | `(tactic| walk_at "binaryOp Sub float int") => `(tactic| ((with_reducible show wpAny _ _ (binaryOp Operator.Sub (Value.float _ _) (Value.int _ _)) _ _ _); refine sub_fi_fits (by assumption) ?_))
local macro_rules | `(tactic| walk_at "call ref") => `(tactic| ((with_reducible show wpAny _ _ (call (Value.ref 42) _) _ _ _); refine' useS ?k1 (c_hsv ?k3 ?k4 ?k1 ?k6 _ _ _ _ _ _ ?k7 ?k8) ?_; (case k1 => assumption); (case k3 => assumption); (case k4 => assumption); (case k6 => (dsimp only [Ar, Around.deeper]; omega)); (case k7 => assumption); (case k8 => assumption); intro v' h' tk' st' P'; (have X' := Frag.In.keeps (by assumption) st'); obtain ⟨l', t1', t2', t3', P', hl'⟩ := P'; subst P'))
local macro_rules | `(tactic| walk_at "call ref") => `(tactic| ((with_reducible show wpAny _ _ (call (Value.ref 28) _) _ _ _); refine' useS ?k1 (c_hls ?k3 ?k4 ?k1 ?k6 _ _ _ _ _ _) ?_; (case k1 => assumption); (case k3 => assumption); (case k4 => assumption); (case k6 => (dsimp only [Ar, Around.deeper]; omega)); intro v' h' tk' st' P'; (have X' := Frag.In.keeps (by assumption) st'); obtain ⟨l', t1', t2', t3', P', hl'⟩ := P'; subst P'))
local macro_rules | `(tactic| walk_at "call ref") => `(tactic| ((with_reducible show wpAny _ _ (call (Value.ref 49) _) _ _ _); refine' useS ?k1 (c_sign ?k3 ?k4 ?k1 ?k6 _ _ _ _ _ _ _ ?k7 ?k8 ?k9 ?k10) ?_; (case k1 => assumption); (case k3 => assumption); (case k4 => assumption); (case k6 => (dsimp only [Ar, Around.deeper]; omega)); (case k7 => assumption); (case k8 => assumption); (case k9 => assumption); (case k10 => assumption); intro v' h' tk' st' P'; (have X' := Frag.In.keeps (by assumption) st'); obtain ⟨t', P'⟩ := P'; subst P'))
local macro_rules | `(tactic| walk_at "subscriptTail Name Name ref int") => `(tactic| (refine' item_litK ?k1 ?k2 ?k3 ?k4 ?_ ?k6; (case k4 => assumption); (case k1 => (refine' lst_up ?a1 ?a2; (case a1 => assumption); (case a2 => assumption))); (case k2 => omega); (case k3 => omega); (case k6 => with_unfolding_all rfl)))
local macro_rules | `(tactic| walk_at "truthy str") => `(tactic| refine P.truthy_str (by omega) ?_)
local macro_rules | `(tactic| walk_at "my go assert") => `(tactic| repeat' (first | (k_unfold; (try dsimp only)) | (walk_at "my bar"; (fail_if_success (with_reducible show wpAny _ _ (exec (Stmt.Assert _ _ _) _) _ _ _)); walk1) | (walk_at "my bar"; (fail_if_success (with_reducible show wpAny _ _ (exec (Stmt.Assert _ _ _) _) _ _ _)); dsimp only; walk_at "my bar"; (fail_if_success (with_reducible show wpAny _ _ (exec (Stmt.Assert _ _ _) _) _ _ _)); walk1)))
local macro_rules | `(tactic| walk_at "subscriptTail Name Constant ref int") => `(tactic| (refine' item_litK ?k1 ?k2 ?k3 ?k4 ?_ ?k6; (case k4 => assumption); (case k1 => exact News.isList (by assumption) (by k_mem)); (case k2 => decide); (case k3 => decide); (case k6 => with_unfolding_all rfl)))
local macro_rules | `(tactic| walk_at "subscriptTail Name UnaryOp ref int") => `(tactic| (refine' item_last ?k1 ?_ ?k6 ?k7; (case k1 => exact News.isList (by assumption) (by k_mem)); (case k6 => with_unfolding_all rfl); (case k7 => (intro _; with_unfolding_all rfl))))
local macro_rules | `(tactic| walk_at "call builtin:str.find") => `(tactic| ((with_reducible show wpAny _ _ (call (Value.builtin _) [_, _, _, _]) _ _ _); refine find4 (by omega) ?_))
local macro_rules | `(tactic| walk_at "subscriptTail Name BinOp ref int") => `(tactic| (refine' item_litK ?k1 ?k2 ?k3 ?k4 ?_ ?k6; (case k4 => assumption); (case k1 => assumption); (case k2 => omega); (case k3 => omega); (case k6 => with_unfolding_all rfl)))
local macro_rules | `(tactic| walk_at "binaryOp Add ref ref") => `(tactic| (refine' add_arrays ?k1 ?k2 ?k3 ?k4 ?_ ?k5; (case k1 => k_asm); (case k2 => k_asm); (case k3 => exact News.isList (by assumption) (by k_mem)); (case k4 => exact News.isList (by assumption) (by k_mem)); (case k5 => (rw [sizeLine_eq]; simp; omega)); intro h' F' N'; (try k_sweep)))
local macro_rules | `(tactic| walk_at "subscriptTail Name UnaryOp ref int") => `(tactic| (refine' item_last ?k1 ?_ ?k6 ?k7; (case k1 => (refine' lst_up ?a1 ?a2; (case a1 => assumption); (case a2 => assumption))); (case k6 => with_unfolding_all rfl); (case k7 => (intro _; with_unfolding_all rfl))))
section
open Builtin Builtin.Str
def gotOf (ring start step nn : Nat) : Str := Str.mk ((List.range nn).map fun h => W ring ((start + step * h) % 16)).toArray
theorem got_len (ring start step nn : Nat) : (gotOf ring start step nn).length = nn := by unfold gotOf Str.length; simp
theorem slice_ix : ∀ nn : Fin 41, strSliceIndices none (some (nn.val : Int)) 1 40 = List.range nn.val := by decide +kernel
theorem fm_map {g : Nat → Option Nat} {f : Nat → Nat} : ∀ l : List Nat, (∀ i ∈ l, g i = some (f i)) → l.filterMap g = l.map f
  | [], _ => rfl
  | a :: l, h => by
    rw [List.filterMap_cons, h a (.head _), List.map_cons]
    dsimp only
    rw [fm_map l fun i hi => h i (.tail _ hi)]
theorem slice_got {ring start step nn : Nat} (h : nn ≤ 40) : Txt.slice (wkOf ring start step) none (some (nn : Int)) = gotOf ring start step nn := by
  have hl : (wkOf ring start step).length = 40 := by unfold wkOf Str.length; simp
  have hx := slice_ix ⟨nn, by omega⟩
  dsimp only at hx
  unfold Txt.slice
  rw [hl, hx]
  split
  · rename_i h1
    have : nn = 40 := by simpa using h1
    subst this
    rfl
  · apply Str.ext'
    unfold gotOf
    dsimp only
    rw [fm_map (f := fun h => W ring ((start + step * h) % 16))]
    intro i hi
    have hi' := List.mem_range.mp hi
    unfold wkOf
    show (List.map (fun h => W ring ((start + step * h) % 16)) (List.range 40)).toArray[i]? = _
    rw [List.getElem?_toArray, List.getElem?_map, List.getElem?_range (by omega)]
    rfl
theorem arith {start step p : Nat} {hue stride size : Int} (hs : start < 16) (hp : step < 16) (h1 : 0 ≤ hue ∧ hue < 16) (h2 : 0 ≤ stride ∧ stride ≤ 16) (h3 : 0 < size ∧ size ≤ 3) :
    (∀ k : Nat, k < size.toNat → (start + step * (p + k)) % 16 = ((hue + stride * (k : Int)).fmod 16).toNat) ↔ p % 16 ∈ hoursF start step (hue, stride, size) := by
  have hpq : step * p = 16 * (step * (p / 16)) + step * (p % 16) := by
    rw [← Nat.mul_assoc, Nat.mul_comm 16, Nat.mul_assoc, ← Nat.mul_add, Nat.div_add_mod]
  generalize step * (p / 16) = u at hpq
  have hcast : ((step : Int) * ((p % 16 : Nat) : Int)) = ((step * (p % 16) : Nat) : Int) := by push_cast; rfl
  have hok : hourOk start step hue (p % 16) = true ↔ ((start : Int) + ((step * (p % 16) : Nat) : Int) - hue) % 16 = 0 := by
    unfold hourOk
    rw [hcast, Int.fmod_eq_emod_of_nonneg _ (by decide)]
    simp
  generalize step * (p % 16) = v at hpq hok
  have hm : p % 16 ∈ hoursF start step (hue, stride, size) ↔ ¬ (1 < size ∧ 0 < (stride - (step : Int)) % 16) ∧ hourOk start step hue (p % 16) = true := by
    unfold hoursF
    dsimp only
    rw [Int.fmod_eq_emod_of_nonneg (stride - (step : Int)) (by decide)]
    split
    · rename_i c
      constructor
      · intro q; cases q
      · intro q; exact absurd c q.1
    · rename_i c
      rw [List.mem_filter, List.mem_range]
      constructor
      · intro q; exact ⟨c, q.2⟩
      · intro q; exact ⟨by omega, q.2⟩
  have c0 : ((0 : Nat) : Int) = 0 := rfl
  have c1 : ((1 : Nat) : Int) = 1 := rfl
  rw [hm, hok]
  constructor
  · intro H
    have e0 := H 0 (by omega)
    rw [Int.fmod_eq_emod_of_nonneg _ (by decide)] at e0
    simp only [Nat.add_zero, Int.mul_zero, Int.add_zero, c0] at e0
    rw [hpq] at e0
    refine ⟨fun c => ?_, by omega⟩
    have e1 := H 1 (by omega)
    rw [Int.fmod_eq_emod_of_nonneg _ (by decide), Nat.mul_add, hpq] at e1
    simp only [Nat.mul_one, Int.mul_one, c1] at e1
    omega
  · rintro ⟨c, e⟩ k hk
    have hk3 : k = 0 ∨ k = 1 ∨ k = 2 := by omega
    rw [Int.fmod_eq_emod_of_nonneg _ (by decide), Nat.mul_add, hpq]
    rcases hk3 with rfl | rfl | rfl
    · simp only [Nat.mul_zero, Nat.add_zero, Int.mul_zero, Int.add_zero, c0]
      omega
    · simp only [Nat.mul_one, Int.mul_one, c1]
      omega
    · have e2 : stride * ((2 : Nat) : Int) = 2 * stride := by rw [Int.mul_comm]; rfl
      rw [e2]
      omega
def XOk (x : Int × Int × Int) : Prop := (0 ≤ x.1 ∧ x.1 < 16) ∧ (0 ≤ x.2.1 ∧ x.2.1 ≤ 16) ∧ (0 ≤ x.2.2 ∧ x.2.2 ≤ 3)
theorem piece_size {ring : Nat} (x : Int × Int × Int) : (pieceOf ring x).length = x.2.2.toNat := by unfold pieceOf Str.length; simp
theorem at_iff {ring start step nn p : Nat} {x : Int × Int × Int} (hr : ring < 4) (hs : start < 16) (hp : step < 16) (hx : XOk x) (h0 : 0 < x.2.2) (hn : p + x.2.2.toNat ≤ nn) :
    subAt (gotOf ring start step nn) (pieceOf ring x) p = true ↔ p % 16 ∈ hoursF start step x := by
  obtain ⟨hue, stride, size⟩ := x
  obtain ⟨h1, h2, h3⟩ := hx
  dsimp only at h0 hn h1 h2 h3
  rw [← arith hs hp h1 h2 ⟨h0, h3.2⟩, StrLaws.subAt_eq, beq_iff_eq, piece_size]
  have e1 : ((gotOf ring start step nn).cps.toList.drop p).take size.toNat = (List.range size.toNat).map fun k => W ring ((start + step * (p + k)) % 16) := by
    unfold gotOf
    apply List.ext_getElem
    · simp; omega
    · intro i hi1 hi2
      simp
  have e2 : (pieceOf ring (hue, stride, size)).cps.toList = (List.range size.toNat).map fun (way : Nat) => W ring ((hue + stride * (way : Int)).fmod 16).toNat := by
    unfold pieceOf
    simp
  dsimp only
  rw [e1, e2, List.map_inj_left]
  constructor
  · intro H k hk
    refine W_inj hr (Nat.mod_lt _ (by decide)) ?_ (H k (List.mem_range.mpr hk))
    have a1 := Int.fmod_nonneg_of_pos (hue + stride * (k : Int)) (b := 16) (by decide)
    have a2 := Int.fmod_lt_of_pos (hue + stride * (k : Int)) (b := 16) (by decide)
    omega
  · intro H k hk
    rw [H k (List.mem_range.mp hk)]
end

end
section
local macro_rules | `(tactic| walk_at "binaryOp Mod float float") => `(tactic| (refine AutoFloatOps.mod_1 (by decide +kernel) ?_; dsimp only [Made.post]))
local macro_rules | `(tactic| walk_at "my bar") => `(tactic| (
  (fail_if_success (with_reducible show wpAny _ _ (pyIter _) _ _ _)); (fail_if_success (with_reducible show wpAny _ _ (exec (Stmt.For _ _ _ _ _) _) _ _ _)); (fail_if_success (with_reducible show wpAny _ _ (eval (Expr.ListComp _ _ _ _) _) _ _ _)); (fail_if_success (with_reducible show wpAny _ _ (exec (Stmt.Assign _ (Expr.ListComp _ _ _ _) _) _) _ _ _))))
local macro_rules | `(tactic| walk_at "my go") => `(tactic| repeat' (first | (k_unfold; (try dsimp only)) | (walk_at "my bar"; walk1) | (walk_at "my bar"; dsimp only; walk_at "my bar"; walk1)))
local macro_rules | `(tactic| walk_at "my for") => `(tactic| (refine' forV ?k1 ?k2 ?k3 ?k4 ?_; (case k1 => k_asm); (case k2 => rfl); (case k3 => rfl); (case k4 => (intro _; rfl)); (try k_fold)))
local macro_rules | `(tactic| walk_at "eval Name") => `(tactic| (refine' Sees.at ?k1 ?k2 ?_ ?k3; (case k1 => assumption); (case k2 => assumption); (case k3 => decide)))
local macro_rules | `(tactic| walk_at "binaryOp Div int float") => `(tactic| (refine AutoFloatOps.truediv_if_2 (Float64.ofInt_fits (by assumption)) (by decide +kernel) ?_; dsimp only [Made.post]))
local macro_rules | `(tactic| walk_at "call ref") => `(tactic| ((with_reducible show wpAny _ _ (call (Value.ref 35) _) _ _ _); refine' useK ?k1 ?k2 (c_v ?k3 ?k4 ?k5 ?k6 _ _ _ _ _ _) ?_; (case k1 => k_asm); (case k2 => k_asm); (case k3 => k_asm); (case k4 => assumption); (case k5 => exact Fr.keep (by k_asm)); (case k6 => (dsimp only [Ar, Around.deeper]; omega)); intro v' h' tk' K' F' N' P'; obtain ⟨t', P'⟩ := P'; subst P'; (try k_sweep)))
local macro_rules | `(tactic| walk_at "call type:int") => `(tactic| ((with_reducible show wpAny _ _ (call (Value.type "int") [Value.float _ _]) _ _ _); refine int_fin (by assumption) ?_))
local macro_rules | `(tactic| walk_at "binaryOp Sub float int") => `(tactic| ((with_reducible show wpAny _ _ (binaryOp Operator.Sub (Value.float _ _) (Value.int _ _)) _ _ _); refine sub_fi_fits (by assumption) ?_))
local macro_rules | `(tactic| walk_at "call ref") => `(tactic| ((with_reducible show wpAny _ _ (call (Value.ref 42) _) _ _ _); refine' useS ?k1 (c_hsv ?k3 ?k4 ?k1 ?k6 _ _ _ _ _ _ ?k7 ?k8) ?_; (case k1 => assumption); (case k3 => assumption); (case k4 => assumption); (case k6 => (dsimp only [Ar, Around.deeper]; omega)); (case k7 => assumption); (case k8 => assumption); intro v' h' tk' st' P'; (have X' := Frag.In.keeps (by assumption) st'); obtain ⟨l', t1', t2', t3', P', hl'⟩ := P'; subst P'))
local macro_rules | `(tactic| walk_at "call ref") => `(tactic| ((with_reducible show wpAny _ _ (call (Value.ref 28) _) _ _ _); refine' useS ?k1 (c_hls ?k3 ?k4 ?k1 ?k6 _ _ _ _ _ _) ?_; (case k1 => assumption); (case k3 => assumption); (case k4 => assumption); (case k6 => (dsimp only [Ar, Around.deeper]; omega)); intro v' h' tk' st' P'; (have X' := Frag.In.keeps (by assumption) st'); obtain ⟨l', t1', t2', t3', P', hl'⟩ := P'; subst P'))
local macro_rules | `(tactic| walk_at "call ref") => `(tactic| ((with_reducible show wpAny _ _ (call (Value.ref 49) _) _ _ _); refine' useS ?k1 (c_sign ?k3 ?k4 ?k1 ?k6 _ _ _ _ _ _ _ ?k7 ?k8 ?k9 ?k10) ?_; (case k1 => assumption); (case k3 => assumption); (case k4 => assumption); (case k6 => (dsimp only [Ar, Around.deeper]; omega)); (case k7 => assumption); (case k8 => assumption); (case k9 => assumption); (case k10 => assumption); intro v' h' tk' st' P'; (have X' := Frag.In.keeps (by assumption) st'); obtain ⟨t', P'⟩ := P'; subst P'))
local macro_rules | `(tactic| walk_at "subscriptTail Name Name ref int") => `(tactic| (refine' item_litK ?k1 ?k2 ?k3 ?k4 ?_ ?k6; (case k4 => assumption); (case k1 => (refine' lst_up ?a1 ?a2; (case a1 => assumption); (case a2 => assumption))); (case k2 => omega); (case k3 => omega); (case k6 => with_unfolding_all rfl)))
local macro_rules | `(tactic| walk_at "truthy str") => `(tactic| refine P.truthy_str (by omega) ?_)
local macro_rules | `(tactic| walk_at "my go assert") => `(tactic| repeat' (first | (k_unfold; (try dsimp only)) | (walk_at "my bar"; (fail_if_success (with_reducible show wpAny _ _ (exec (Stmt.Assert _ _ _) _) _ _ _)); walk1) | (walk_at "my bar"; (fail_if_success (with_reducible show wpAny _ _ (exec (Stmt.Assert _ _ _) _) _ _ _)); dsimp only; walk_at "my bar"; (fail_if_success (with_reducible show wpAny _ _ (exec (Stmt.Assert _ _ _) _) _ _ _)); walk1)))
local macro_rules | `(tactic| walk_at "subscriptTail Name Constant ref int") => `(tactic| (refine' item_litK ?k1 ?k2 ?k3 ?k4 ?_ ?k6; (case k4 => assumption); (case k1 => exact News.isList (by assumption) (by k_mem)); (case k2 => decide); (case k3 => decide); (case k6 => with_unfolding_all rfl)))
local macro_rules | `(tactic| walk_at "subscriptTail Name UnaryOp ref int") => `(tactic| (refine' item_last ?k1 ?_ ?k6 ?k7; (case k1 => exact News.isList (by assumption) (by k_mem)); (case k6 => with_unfolding_all rfl); (case k7 => (intro _; with_unfolding_all rfl))))
local macro_rules | `(tactic| walk_at "call builtin:str.find") => `(tactic| ((with_reducible show wpAny _ _ (call (Value.builtin _) [_, _, _, _]) _ _ _); refine find4 (by omega) ?_))
local macro_rules | `(tactic| walk_at "subscriptTail Name BinOp ref int") => `(tactic| (refine' item_litK ?k1 ?k2 ?k3 ?k4 ?_ ?k6; (case k4 => assumption); (case k1 => assumption); (case k2 => omega); (case k3 => omega); (case k6 => with_unfolding_all rfl)))
local macro_rules | `(tactic| walk_at "binaryOp Add ref ref") => `(tactic| (refine' add_arrays ?k1 ?k2 ?k3 ?k4 ?_ ?k5; (case k1 => k_asm); (case k2 => k_asm); (case k3 => exact News.isList (by assumption) (by k_mem)); (case k4 => exact News.isList (by assumption) (by k_mem)); (case k5 => (rw [sizeLine_eq]; simp; omega)); intro h' F' N'; (try k_sweep)))
local macro_rules | `(tactic| walk_at "subscriptTail Name UnaryOp ref int") => `(tactic| (refine' item_last ?k1 ?_ ?k6 ?k7; (case k1 => (refine' lst_up ?a1 ?a2; (case a1 => assumption); (case a2 => assumption))); (case k6 => with_unfolding_all rfl); (case k7 => (intro _; with_unfolding_all rfl))))
section
open Builtin Builtin.Str
variable {ring start step nn hi : Nat}
theorem runF_cons (got w : Str) (r : List Str) (pos e : Nat) : runF got (w :: r) pos e = if findF got w pos e < 0 then false else runF got r ((findF got w pos e).toNat + w.length) e := rfl
theorem step_empty {x : Int × Int × Int} {r : List Str} {pos : Nat} {got : Str} (h0 : ¬ 0 < x.2.2) (hp : pos ≤ hi) : runF got (pieceOf ring x :: r) pos hi = runF got r pos hi := by
  have hl : (pieceOf ring x).length = 0 := by rw [piece_size]; omega
  rw [runF_cons]
  rw [find_empty hl hp, if_neg (by omega), hl]
  rfl
theorem step_no {x : Int × Int × Int} {r : List Str} {pos : Nat} (hr : ring < 4) (hs : start < 16) (hst : step < 16) (hx : XOk x) (h0 : 0 < x.2.2) (hh : hoursF start step x = []) (hn : hi ≤ nn) : runF (gotOf ring start step nn) (pieceOf ring x :: r) pos hi = false := by
  rw [runF_cons]
  rw [find_none, if_pos (by decide)]
  intro i _ hA
  have h1 := hA.1
  rw [piece_size] at h1
  have := (at_iff hr hs hst hx h0 (by omega)).mp hA.2
  rw [hh] at this
  cases this
theorem step_go {x : Int × Int × Int} {r : List Str} {pos : Nat} {M : Int} (hr : ring < 4) (hs : start < 16) (hst : step < 16) (hx : XOk x) (h0 : 0 < x.2.2) (hM : Ahead (hoursF start step x) (pos : Int) M) (hn : hi ≤ nn) :
    0 ≤ M ∧ runF (gotOf ring start step nn) (pieceOf ring x :: r) pos hi = if (pos : Int) + (M + x.2.2) ≤ (hi : Int) then runF (gotOf ring start step nn) r ((pos : Int) + (M + x.2.2)).toNat hi else false := by
  obtain ⟨⟨h, hh, hMe⟩, hmin⟩ := hM
  have hlt := hours_lt h hh
  rw [Int.fmod_eq_emod_of_nonneg _ (by decide)] at hMe
  have hM0 : 0 ≤ M := by omega
  refine ⟨hM0, ?_⟩
  obtain ⟨m, rfl⟩ : ∃ m : Nat, M = (m : Int) := ⟨M.toNat, by omega⟩
  have hat : (pos + m) % 16 = h := by omega
  have hno : ∀ i, pos ≤ i → i < pos + m → ¬ StrLaws.At (gotOf ring start step nn) (pieceOf ring x) hi i := by
    intro i h1 h2 hA
    have h3 := hA.1
    rw [piece_size] at h3
    have h4 := (at_iff hr hs hst hx h0 (by omega)).mp hA.2
    have h5 := hmin _ h4
    rw [Int.fmod_eq_emod_of_nonneg _ (by decide)] at h5
    omega
  rw [runF_cons]
  by_cases c : (pos : Int) + ((m : Int) + x.2.2) ≤ (hi : Int)
  · have hA : StrLaws.At (gotOf ring start step nn) (pieceOf ring x) hi (pos + m) := by
      refine ⟨by rw [piece_size]; omega, (at_iff hr hs hst hx h0 (by omega)).mpr ?_⟩
      rw [hat]
      exact hh
    rw [find_at (by omega) hA hno, if_neg (by omega), if_pos c, piece_size]
    congr 1
    omega
  · rw [find_none, if_pos (by decide), if_neg c]
    intro i h1 hA
    by_cases q : i < pos + m
    · exact hno i h1 q hA
    · have h3 := hA.1
      rw [piece_size] at h3
      omega
theorem ahead_nonneg {hs : List Nat} {spot M : Int} (h : Ahead hs spot M) : 0 ≤ M := by
  obtain ⟨⟨h, _, e⟩, _⟩ := h
  rw [e]
  exact Int.fmod_nonneg_of_pos _ (by decide)
def Rows (ring start step : Nat) (sz : List Int) (ck : List (List Nat)) (ws : List Str) : Prop := ∀ (i : Nat) (z : Int), sz[i]? = some z → ∃ x, XOk x ∧ z = x.2.2 ∧ ck[i]? = some (hoursF start step x) ∧ ws[i]? = some (pieceOf ring x)
theorem drop_of {ws : List Str} {i : Nat} {p : Str} (h : ws[i]? = some p) : ws.drop i = p :: ws.drop (i + 1) := by
  obtain ⟨h1, h2⟩ := List.getElem?_eq_some_iff.mp h
  rw [List.drop_eq_getElem_cons h1, h2]
theorem run_ends {shut : Bool} {sz : List Int} {ck : List (List Nat)} {ws : List Str} (hr : ring < 4) (hs : start < 16) (hst : step < 16) (hn : hi ≤ nn) (H : Rows ring start step sz ck ws) {i0 p0 : Nat} (hp0 : p0 ≤ hi) (hdet : ∀ q, Ends shut sz ck i0 q → q = (p0 : Int)) :
    ∀ {i : Nat} {spot : Int}, Ends shut sz ck i spot → i0 ≤ i → 0 ≤ spot ∧ runF (gotOf ring start step nn) (ws.drop i0) p0 hi = if spot ≤ (hi : Int) then runF (gotOf ring start step nn) (ws.drop i) spot.toNat hi else false := by
  intro i spot h
  induction h with
  | zero =>
    intro h0
    have e : i0 = 0 := by omega
    subst e
    have e2 : p0 = 0 := by have := hdet 0 .zero; omega
    subst e2
    refine ⟨by decide, ?_⟩
    rw [if_pos (by omega)]
    rfl
  | @skip i spot z h hz hz0 ih =>
    intro h0
    by_cases q : i0 = i + 1
    · subst q
      have e2 := hdet spot (.skip h hz hz0)
      subst e2
      refine ⟨by omega, ?_⟩
      rw [if_pos (by omega)]
      rfl
    · obtain ⟨h1, h2⟩ := ih (by omega)
      refine ⟨h1, ?_⟩
      rw [h2]
      obtain ⟨x, hx, rfl, _, hw⟩ := H i z hz
      by_cases c : spot ≤ (hi : Int)
      · rw [if_pos c, if_pos c, drop_of hw, step_empty hz0 (by omega)]
      · rw [if_neg c, if_neg c]
  | @go i spot z M hs' h hz hz0 hc ha hsh ih =>
    intro h0
    by_cases q : i0 = i + 1
    · subst q
      have e2 := hdet _ (.go h hz hz0 hc ha hsh)
      rw [e2]
      refine ⟨by omega, ?_⟩
      rw [if_pos (by omega)]
      rfl
    · obtain ⟨h1, h2⟩ := ih (by omega)
      obtain ⟨x, hx, rfl, hk, hw⟩ := H i z hz
      rw [hk] at hc
      obtain rfl := Option.some.inj hc
      have hM := ahead_nonneg ha
      refine ⟨by omega, ?_⟩
      rw [h2]
      obtain ⟨n, rfl⟩ : ∃ n : Nat, spot = (n : Int) := ⟨spot.toNat, by omega⟩
      by_cases c : (n : Int) ≤ (hi : Int)
      · rw [if_pos c, drop_of hw, Int.toNat_natCast, (step_go hr hs hst hx hz0 ha hn).2]
      · rw [if_neg c, if_neg (by omega)]
theorem run_ended {shut : Bool} {sz : List Int} {ck : List (List Nat)} {ws : List Str} {r : Int} (hr : ring < 4) (hs : start < 16) (hst : step < 16) (hn : hi ≤ nn) (h40 : nn ≤ 40) (H : Rows ring start step sz ck ws) {i0 p0 : Nat} (hp0 : p0 ≤ hi) (hdet : ∀ q, Ends shut sz ck i0 q → q = (p0 : Int))
    (hi0 : i0 ≤ sz.length) (htail : ∀ p, p ≤ hi → runF (gotOf ring start step nn) (ws.drop sz.length) p hi = true)
    (hstk : Stuck shut sz ck → ∃ i spot z, i0 ≤ i ∧ Ends shut sz ck i spot ∧ sz[i]? = some z ∧ 0 < z ∧ ck[i]? = some []) (hE : Ended shut sz ck r) :
    runF (gotOf ring start step nn) (ws.drop i0) p0 hi = decide (r ≤ (hi : Int)) := by
  rcases hE with hE | ⟨rfl, hS⟩
  · obtain ⟨h1, h2⟩ := run_ends hr hs hst hn H hp0 hdet hE hi0
    rw [h2]
    by_cases c : r ≤ (hi : Int)
    · rw [if_pos c, htail _ (by omega), decide_eq_true c]
    · rw [if_neg c, decide_eq_false c]
  · obtain ⟨i, spot, z, h0, h1, h2, h3, h4⟩ := hstk hS
    obtain ⟨g1, g2⟩ := run_ends hr hs hst hn H hp0 hdet h1 h0
    rw [g2, decide_eq_false (by omega)]
    obtain ⟨x, hx, rfl, hk, hw⟩ := H i z h2
    rw [h4] at hk
    by_cases c : spot ≤ (hi : Int)
    · rw [if_pos c, drop_of hw, step_no hr hs hst hx h3 (Option.some.inj hk).symm hn]
    · rw [if_neg c]
end

end
section
local macro_rules | `(tactic| walk_at "binaryOp Mod float float") => `(tactic| (refine AutoFloatOps.mod_1 (by decide +kernel) ?_; dsimp only [Made.post]))
local macro_rules | `(tactic| walk_at "my bar") => `(tactic| (
  (fail_if_success (with_reducible show wpAny _ _ (pyIter _) _ _ _)); (fail_if_success (with_reducible show wpAny _ _ (exec (Stmt.For _ _ _ _ _) _) _ _ _)); (fail_if_success (with_reducible show wpAny _ _ (eval (Expr.ListComp _ _ _ _) _) _ _ _)); (fail_if_success (with_reducible show wpAny _ _ (exec (Stmt.Assign _ (Expr.ListComp _ _ _ _) _) _) _ _ _))))
local macro_rules | `(tactic| walk_at "my go") => `(tactic| repeat' (first | (k_unfold; (try dsimp only)) | (walk_at "my bar"; walk1) | (walk_at "my bar"; dsimp only; walk_at "my bar"; walk1)))
local macro_rules | `(tactic| walk_at "my for") => `(tactic| (refine' forV ?k1 ?k2 ?k3 ?k4 ?_; (case k1 => k_asm); (case k2 => rfl); (case k3 => rfl); (case k4 => (intro _; rfl)); (try k_fold)))
local macro_rules | `(tactic| walk_at "eval Name") => `(tactic| (refine' Sees.at ?k1 ?k2 ?_ ?k3; (case k1 => assumption); (case k2 => assumption); (case k3 => decide)))
local macro_rules | `(tactic| walk_at "binaryOp Div int float") => `(tactic| (refine AutoFloatOps.truediv_if_2 (Float64.ofInt_fits (by assumption)) (by decide +kernel) ?_; dsimp only [Made.post]))
local macro_rules | `(tactic| walk_at "call ref") => `(tactic| ((with_reducible show wpAny _ _ (call (Value.ref 35) _) _ _ _); refine' useK ?k1 ?k2 (c_v ?k3 ?k4 ?k5 ?k6 _ _ _ _ _ _) ?_; (case k1 => k_asm); (case k2 => k_asm); (case k3 => k_asm); (case k4 => assumption); (case k5 => exact Fr.keep (by k_asm)); (case k6 => (dsimp only [Ar, Around.deeper]; omega)); intro v' h' tk' K' F' N' P'; obtain ⟨t', P'⟩ := P'; subst P'; (try k_sweep)))
local macro_rules | `(tactic| walk_at "call type:int") => `(tactic| ((with_reducible show wpAny _ _ (call (Value.type "int") [Value.float _ _]) _ _ _); refine int_fin (by assumption) ?_))
local macro_rules | `(tactic| walk_at "binaryOp Sub float int") => `(tactic| ((with_reducible show wpAny _ _ (binaryOp Operator.Sub (Value.float _ _) (Value.int _ _)) _ _ _); refine sub_fi_fits (by assumption) ?_))
local macro_rules | `(tactic| walk_at "call ref") => `(tactic| ((with_reducible show wpAny _ _ (call (Value.ref 42) _) _ _ _); refine' useS ?k1 (c_hsv ?k3 ?k4 ?k1 ?k6 _ _ _ _ _ _ ?k7 ?k8) ?_; (case k1 => assumption); (case k3 => assumption); (case k4 => assumption); (case k6 => (dsimp only [Ar, Around.deeper]; omega)); (case k7 => assumption); (case k8 => assumption); intro v' h' tk' st' P'; (have X' := Frag.In.keeps (by assumption) st'); obtain ⟨l', t1', t2', t3', P', hl'⟩ := P'; subst P'))
local macro_rules | `(tactic| walk_at "call ref") => `(tactic| ((with_reducible show wpAny _ _ (call (Value.ref 28) _) _ _ _); refine' useS ?k1 (c_hls ?k3 ?k4 ?k1 ?k6 _ _ _ _ _ _) ?_; (case k1 => assumption); (case k3 => assumption); (case k4 => assumption); (case k6 => (dsimp only [Ar, Around.deeper]; omega)); intro v' h' tk' st' P'; (have X' := Frag.In.keeps (by assumption) st'); obtain ⟨l', t1', t2', t3', P', hl'⟩ := P'; subst P'))
local macro_rules | `(tactic| walk_at "call ref") => `(tactic| ((with_reducible show wpAny _ _ (call (Value.ref 49) _) _ _ _); refine' useS ?k1 (c_sign ?k3 ?k4 ?k1 ?k6 _ _ _ _ _ _ _ ?k7 ?k8 ?k9 ?k10) ?_; (case k1 => assumption); (case k3 => assumption); (case k4 => assumption); (case k6 => (dsimp only [Ar, Around.deeper]; omega)); (case k7 => assumption); (case k8 => assumption); (case k9 => assumption); (case k10 => assumption); intro v' h' tk' st' P'; (have X' := Frag.In.keeps (by assumption) st'); obtain ⟨t', P'⟩ := P'; subst P'))
local macro_rules | `(tactic| walk_at "subscriptTail Name Name ref int") => `(tactic| (refine' item_litK ?k1 ?k2 ?k3 ?k4 ?_ ?k6; (case k4 => assumption); (case k1 => (refine' lst_up ?a1 ?a2; (case a1 => assumption); (case a2 => assumption))); (case k2 => omega); (case k3 => omega); (case k6 => with_unfolding_all rfl)))
local macro_rules | `(tactic| walk_at "truthy str") => `(tactic| refine P.truthy_str (by omega) ?_)
local macro_rules | `(tactic| walk_at "my go assert") => `(tactic| repeat' (first | (k_unfold; (try dsimp only)) | (walk_at "my bar"; (fail_if_success (with_reducible show wpAny _ _ (exec (Stmt.Assert _ _ _) _) _ _ _)); walk1) | (walk_at "my bar"; (fail_if_success (with_reducible show wpAny _ _ (exec (Stmt.Assert _ _ _) _) _ _ _)); dsimp only; walk_at "my bar"; (fail_if_success (with_reducible show wpAny _ _ (exec (Stmt.Assert _ _ _) _) _ _ _)); walk1)))
local macro_rules | `(tactic| walk_at "subscriptTail Name Constant ref int") => `(tactic| (refine' item_litK ?k1 ?k2 ?k3 ?k4 ?_ ?k6; (case k4 => assumption); (case k1 => exact News.isList (by assumption) (by k_mem)); (case k2 => decide); (case k3 => decide); (case k6 => with_unfolding_all rfl)))
local macro_rules | `(tactic| walk_at "subscriptTail Name UnaryOp ref int") => `(tactic| (refine' item_last ?k1 ?_ ?k6 ?k7; (case k1 => exact News.isList (by assumption) (by k_mem)); (case k6 => with_unfolding_all rfl); (case k7 => (intro _; with_unfolding_all rfl))))
local macro_rules | `(tactic| walk_at "call builtin:str.find") => `(tactic| ((with_reducible show wpAny _ _ (call (Value.builtin _) [_, _, _, _]) _ _ _); refine find4 (by omega) ?_))
local macro_rules | `(tactic| walk_at "subscriptTail Name BinOp ref int") => `(tactic| (refine' item_litK ?k1 ?k2 ?k3 ?k4 ?_ ?k6; (case k4 => assumption); (case k1 => assumption); (case k2 => omega); (case k3 => omega); (case k6 => with_unfolding_all rfl)))
local macro_rules | `(tactic| walk_at "binaryOp Add ref ref") => `(tactic| (refine' add_arrays ?k1 ?k2 ?k3 ?k4 ?_ ?k5; (case k1 => k_asm); (case k2 => k_asm); (case k3 => exact News.isList (by assumption) (by k_mem)); (case k4 => exact News.isList (by assumption) (by k_mem)); (case k5 => (rw [sizeLine_eq]; simp; omega)); intro h' F' N'; (try k_sweep)))
local macro_rules | `(tactic| walk_at "subscriptTail Name UnaryOp ref int") => `(tactic| (refine' item_last ?k1 ?_ ?k6 ?k7; (case k1 => (refine' lst_up ?a1 ?a2; (case a1 => assumption); (case a2 => assumption))); (case k6 => with_unfolding_all rfl); (case k7 => (intro _; with_unfolding_all rfl))))
section
open Builtin Builtin.Str
variable {ring start step nn hi : Nat}
theorem ends0 {shut : Bool} {sz : List Int} {ck : List (List Nat)} {q : Int} (h : Ends shut sz ck 0 q) : q = 0 := by
  cases h
  rfl
theorem ends_ge {shut : Bool} {sz : List Int} {ck : List (List Nat)} {z0 : Int} (hz : sz[0]? = some z0) (h0 : 0 < z0) {i : Nat} {q : Int} (h : Ends shut sz ck i q) : 1 ≤ i → z0 ≤ q := by
  induction h with
  | zero => intro h; omega
  | @skip i spot z h hz' hz0 ih =>
    intro _
    by_cases c : i = 0
    · subst c
      rw [hz] at hz'
      obtain rfl := Option.some.inj hz'
      exact absurd h0 hz0
    · exact ih (by omega)
  | @go i spot z M hs' h hz' hz0 hc ha hsh ih =>
    intro _
    have hM := ahead_nonneg ha
    by_cases c : i = 0
    · subst c
      rw [hz] at hz'
      obtain rfl := Option.some.inj hz'
      have := ends0 h
      omega
    · have := ih (by omega)
      omega
theorem ends_mem {sz : List Int} {ck : List (List Nat)} {z0 : Int} {hs0 : List Nat} (hz : sz[0]? = some z0) (h0 : 0 < z0) (hk : ck[0]? = some hs0) (hlt : ∀ h ∈ hs0, h < 16) {i : Nat} {q : Int} (h : Ends true sz ck i q) : 1 ≤ i → 0 ∈ hs0 := by
  induction h with
  | zero => intro h; omega
  | @skip i spot z h hz' hz0 ih =>
    intro _
    by_cases c : i = 0
    · subst c
      rw [hz] at hz'
      obtain rfl := Option.some.inj hz'
      exact absurd h0 hz0
    · exact ih (by omega)
  | @go i spot z M hs' h hz' hz0 hc ha hsh ih =>
    intro _
    by_cases c : i = 0
    · subst c
      rw [hk] at hc
      obtain rfl := Option.some.inj hc
      have e := ends0 h
      subst e
      have hM : ¬ 0 < M := fun q => hsh ⟨rfl, rfl, q⟩
      obtain ⟨⟨k, hk', e⟩, _⟩ := ha
      have := hlt k hk'
      rw [Int.fmod_eq_emod_of_nonneg _ (by decide)] at e
      have : k = 0 := by omega
      rw [← this]
      exact hk'
    · exact ih (by omega)
theorem rows_of {T : List (Int × Int × Int)} {ck : List (List Nat)} {tl : List Str} (hT : ∀ x ∈ T, XOk x) (hck : ∀ (i : Nat) x, T[i]? = some x → ck[i]? = some (hoursF start step x)) : Rows ring start step (T.map fun x => x.2.2) ck (T.map (pieceOf ring) ++ tl) := by
  intro i z hz
  rw [List.getElem?_map] at hz
  cases e : T[i]? with
  | none => rw [e] at hz; cases hz
  | some x =>
    rw [e] at hz
    refine ⟨x, hT x (List.mem_of_getElem? e), (Option.some.inj hz).symm, hck i x e, ?_⟩
    rw [List.getElem?_append_left (by rw [List.length_map]; exact (List.getElem?_eq_some_iff.mp e).1), List.getElem?_map, e]
    rfl
theorem tail_of {T : List (Int × Int × Int)} {tl : List Str} : (T.map (pieceOf ring) ++ tl).drop (T.map fun x => x.2.2).length = tl := List.drop_left' (by simp)
section
variable {T : List (Int × Int × Int)} {x0 : Int × Int × Int} {ck : List (List Nat)} {tl : List Str} {r : Int} (hr : ring < 4) (hs : start < 16) (hst : step < 16) (hn : hi ≤ nn) (h40 : nn ≤ 40) (hT : ∀ x ∈ x0 :: T, XOk x) (hck : ∀ (i : Nat) x, (x0 :: T)[i]? = some x → ck[i]? = some (hoursF start step x))
  (htl : ∀ p, p ≤ hi → runF (gotOf ring start step nn) tl p hi = true)
include hr hs hst hn h40 hT hck htl
theorem kA (hE : Ended false ((x0 :: T).map fun x => x.2.2) ck r) : runF (gotOf ring start step nn) (Str.ofString "" :: ((x0 :: T).map (pieceOf ring) ++ tl)) 0 hi = decide (r ≤ (hi : Int)) := by
  have he : (Str.ofString "").length = 0 := by decide +kernel
  rw [runF_cons, find_empty he (Nat.zero_le _), if_neg (by omega), he]
  refine run_ended (i0 := 0) (p0 := 0) hr hs hst hn h40 (rows_of hT hck) (Nat.zero_le _) (fun q hq => ends0 hq) (Nat.zero_le _) (by rw [tail_of]; exact htl) ?_ hE
  rintro ⟨i, spot, z, hs', g1, g2, g3, g4, g5 | ⟨M, _, g6, _⟩⟩
  · exact ⟨i, spot, z, Nat.zero_le _, g1, g2, g3, by rw [g4, g5]⟩
  · cases g6
theorem kB (h0 : ¬ 0 < x0.2.2) (hE : Ended true ((x0 :: T).map fun x => x.2.2) ck r) : runF (gotOf ring start step nn) ((x0 :: T).map (pieceOf ring) ++ tl) 0 hi = decide (r ≤ (hi : Int)) := by
  refine run_ended (i0 := 0) (p0 := 0) hr hs hst hn h40 (rows_of hT hck) (Nat.zero_le _) (fun q hq => ends0 hq) (Nat.zero_le _) (by rw [tail_of]; exact htl) ?_ hE
  rintro ⟨i, spot, z, hs', g1, g2, g3, g4, g5 | ⟨M, _, _, g6, _⟩⟩
  · exact ⟨i, spot, z, Nat.zero_le _, g1, g2, g3, by rw [g4, g5]⟩
  · subst g6
    obtain rfl : x0.2.2 = z := Option.some.inj g2
    exact absurd g3 h0
theorem kC (h0 : 0 < x0.2.2) (hm : 0 ∈ hoursF start step x0) (hE : Ended true ((x0 :: T).map fun x => x.2.2) ck r) : ell3 (T.map (pieceOf ring) ++ tl) (gotOf ring start step nn) x0.2.2.toNat hi = decide (r ≤ (hi : Int)) := by
  have hk0 := hck 0 x0 rfl
  unfold ell3
  by_cases c : x0.2.2.toNat ≤ hi
  · rw [if_pos c]
    refine run_ended (i0 := 1) (p0 := x0.2.2.toNat) (ws := (x0 :: T).map (pieceOf ring) ++ tl) hr hs hst hn h40 (rows_of hT hck) c ?_ (by simp) (by rw [tail_of]; exact htl) ?_ hE
    · intro q hq
      cases hq with
      | skip h hz hz0 =>
        obtain rfl := Option.some.inj hz
        exact absurd h0 hz0
      | @go _ spot z M hs' h hz hz0 hc ha hsh =>
        obtain rfl : x0.2.2 = z := Option.some.inj hz
        have e := ends0 h
        subst e
        have hM := ahead_nonneg ha
        have : ¬ 0 < M := fun q => hsh ⟨rfl, rfl, q⟩
        omega
    · rintro ⟨i, spot, z, hs', g1, g2, g3, g4, g5⟩
      by_cases ci : i = 0
      · subst ci
        rw [hk0] at g4
        obtain rfl := Option.some.inj g4
        have e := ends0 g1
        subst e
        rcases g5 with g5 | ⟨M, ⟨_, g6⟩, _, _, g7⟩
        · rw [g5] at hm; cases hm
        · have := g6 0 hm
          have e : (((0 : Nat) : Int) - 0).fmod 16 = 0 := by decide
          omega
      · rcases g5 with g5 | ⟨_, _, _, g6, _⟩
        · exact ⟨i, spot, z, by omega, g1, g2, g3, by rw [g4, g5]⟩
        · exact absurd g6 ci
  · rw [if_neg c, decide_eq_false]
    rcases hE with hE | ⟨rfl, _⟩
    · have := ends_ge (z0 := x0.2.2) rfl h0 hE (by simp)
      omega
    · omega
omit hr hs hst hn h40 hT htl in
theorem kD (h0 : 0 < x0.2.2) (hm : ¬ 0 ∈ hoursF start step x0) (hE : Ended true ((x0 :: T).map fun x => x.2.2) ck r) : r = 99 := by
  rcases hE with hE | ⟨rfl, _⟩
  · exact absurd (ends_mem (z0 := x0.2.2) rfl h0 (hck 0 x0 rfl) hours_lt hE (by simp)) hm
  · rfl
end
theorem ended_nonneg {sh : Bool} {sz : List Int} {ck : List (List Nat)} {r : Int} (hsz : ∀ z ∈ sz, 0 ≤ z ∧ z ≤ 3) (h : Ended sh sz ck r) : 0 ≤ r := by
  rcases h with h | ⟨rfl, _⟩
  · exact (ends_bounds hsz h).1
  · decide
end

end
section
local macro_rules | `(tactic| walk_at "binaryOp Mod float float") => `(tactic| (refine AutoFloatOps.mod_1 (by decide +kernel) ?_; dsimp only [Made.post]))
local macro_rules | `(tactic| walk_at "my bar") => `(tactic| (
  (fail_if_success (with_reducible show wpAny _ _ (pyIter _) _ _ _)); (fail_if_success (with_reducible show wpAny _ _ (exec (Stmt.For _ _ _ _ _) _) _ _ _)); (fail_if_success (with_reducible show wpAny _ _ (eval (Expr.ListComp _ _ _ _) _) _ _ _)); (fail_if_success (with_reducible show wpAny _ _ (exec (Stmt.Assign _ (Expr.ListComp _ _ _ _) _) _) _ _ _))))
local macro_rules | `(tactic| walk_at "my go") => `(tactic| repeat' (first | (k_unfold; (try dsimp only)) | (walk_at "my bar"; walk1) | (walk_at "my bar"; dsimp only; walk_at "my bar"; walk1)))
local macro_rules | `(tactic| walk_at "my for") => `(tactic| (refine' forV ?k1 ?k2 ?k3 ?k4 ?_; (case k1 => k_asm); (case k2 => rfl); (case k3 => rfl); (case k4 => (intro _; rfl)); (try k_fold)))
local macro_rules | `(tactic| walk_at "eval Name") => `(tactic| (refine' Sees.at ?k1 ?k2 ?_ ?k3; (case k1 => assumption); (case k2 => assumption); (case k3 => decide)))
local macro_rules | `(tactic| walk_at "binaryOp Div int float") => `(tactic| (refine AutoFloatOps.truediv_if_2 (Float64.ofInt_fits (by assumption)) (by decide +kernel) ?_; dsimp only [Made.post]))
local macro_rules | `(tactic| walk_at "call ref") => `(tactic| ((with_reducible show wpAny _ _ (call (Value.ref 35) _) _ _ _); refine' useK ?k1 ?k2 (c_v ?k3 ?k4 ?k5 ?k6 _ _ _ _ _ _) ?_; (case k1 => k_asm); (case k2 => k_asm); (case k3 => k_asm); (case k4 => assumption); (case k5 => exact Fr.keep (by k_asm)); (case k6 => (dsimp only [Ar, Around.deeper]; omega)); intro v' h' tk' K' F' N' P'; obtain ⟨t', P'⟩ := P'; subst P'; (try k_sweep)))
local macro_rules | `(tactic| walk_at "call type:int") => `(tactic| ((with_reducible show wpAny _ _ (call (Value.type "int") [Value.float _ _]) _ _ _); refine int_fin (by assumption) ?_))
local macro_rules | `(tactic| walk_at "binaryOp Sub float int") => `(tactic| ((with_reducible show wpAny _ _ (binaryOp Operator.Sub (Value.float _ _) (Value.int _ _)) _ _ _); refine sub_fi_fits (by assumption) ?_))
local macro_rules | `(tactic| walk_at "call ref") => `(tactic| ((with_reducible show wpAny _ _ (call (Value.ref 42) _) _ _ _); refine' useS ?k1 (c_hsv ?k3 ?k4 ?k1 ?k6 _ _ _ _ _ _ ?k7 ?k8) ?_; (case k1 => assumption); (case k3 => assumption); (case k4 => assumption); (case k6 => (dsimp only [Ar, Around.deeper]; omega)); (case k7 => assumption); (case k8 => assumption); intro v' h' tk' st' P'; (have X' := Frag.In.keeps (by assumption) st'); obtain ⟨l', t1', t2', t3', P', hl'⟩ := P'; subst P'))
local macro_rules | `(tactic| walk_at "call ref") => `(tactic| ((with_reducible show wpAny _ _ (call (Value.ref 28) _) _ _ _); refine' useS ?k1 (c_hls ?k3 ?k4 ?k1 ?k6 _ _ _ _ _ _) ?_; (case k1 => assumption); (case k3 => assumption); (case k4 => assumption); (case k6 => (dsimp only [Ar, Around.deeper]; omega)); intro v' h' tk' st' P'; (have X' := Frag.In.keeps (by assumption) st'); obtain ⟨l', t1', t2', t3', P', hl'⟩ := P'; subst P'))
local macro_rules | `(tactic| walk_at "call ref") => `(tactic| ((with_reducible show wpAny _ _ (call (Value.ref 49) _) _ _ _); refine' useS ?k1 (c_sign ?k3 ?k4 ?k1 ?k6 _ _ _ _ _ _ _ ?k7 ?k8 ?k9 ?k10) ?_; (case k1 => assumption); (case k3 => assumption); (case k4 => assumption); (case k6 => (dsimp only [Ar, Around.deeper]; omega)); (case k7 => assumption); (case k8 => assumption); (case k9 => assumption); (case k10 => assumption); intro v' h' tk' st' P'; (have X' := Frag.In.keeps (by assumption) st'); obtain ⟨t', P'⟩ := P'; subst P'))
local macro_rules | `(tactic| walk_at "subscriptTail Name Name ref int") => `(tactic| (refine' item_litK ?k1 ?k2 ?k3 ?k4 ?_ ?k6; (case k4 => assumption); (case k1 => (refine' lst_up ?a1 ?a2; (case a1 => assumption); (case a2 => assumption))); (case k2 => omega); (case k3 => omega); (case k6 => with_unfolding_all rfl)))
local macro_rules | `(tactic| walk_at "truthy str") => `(tactic| refine P.truthy_str (by omega) ?_)
local macro_rules | `(tactic| walk_at "my go assert") => `(tactic| repeat' (first | (k_unfold; (try dsimp only)) | (walk_at "my bar"; (fail_if_success (with_reducible show wpAny _ _ (exec (Stmt.Assert _ _ _) _) _ _ _)); walk1) | (walk_at "my bar"; (fail_if_success (with_reducible show wpAny _ _ (exec (Stmt.Assert _ _ _) _) _ _ _)); dsimp only; walk_at "my bar"; (fail_if_success (with_reducible show wpAny _ _ (exec (Stmt.Assert _ _ _) _) _ _ _)); walk1)))
local macro_rules | `(tactic| walk_at "subscriptTail Name Constant ref int") => `(tactic| (refine' item_litK ?k1 ?k2 ?k3 ?k4 ?_ ?k6; (case k4 => assumption); (case k1 => exact News.isList (by assumption) (by k_mem)); (case k2 => decide); (case k3 => decide); (case k6 => with_unfolding_all rfl)))
local macro_rules | `(tactic| walk_at "subscriptTail Name UnaryOp ref int") => `(tactic| (refine' item_last ?k1 ?_ ?k6 ?k7; (case k1 => exact News.isList (by assumption) (by k_mem)); (case k6 => with_unfolding_all rfl); (case k7 => (intro _; with_unfolding_all rfl))))
local macro_rules | `(tactic| walk_at "call builtin:str.find") => `(tactic| ((with_reducible show wpAny _ _ (call (Value.builtin _) [_, _, _, _]) _ _ _); refine find4 (by omega) ?_))
local macro_rules | `(tactic| walk_at "subscriptTail Name BinOp ref int") => `(tactic| (refine' item_litK ?k1 ?k2 ?k3 ?k4 ?_ ?k6; (case k4 => assumption); (case k1 => assumption); (case k2 => omega); (case k3 => omega); (case k6 => with_unfolding_all rfl)))
local macro_rules | `(tactic| walk_at "binaryOp Add ref ref") => `(tactic| (refine' add_arrays ?k1 ?k2 ?k3 ?k4 ?_ ?k5; (case k1 => k_asm); (case k2 => k_asm); (case k3 => exact News.isList (by assumption) (by k_mem)); (case k4 => exact News.isList (by assumption) (by k_mem)); (case k5 => (rw [sizeLine_eq]; simp; omega)); intro h' F' N'; (try k_sweep)))
local macro_rules | `(tactic| walk_at "subscriptTail Name UnaryOp ref int") => `(tactic| (refine' item_last ?k1 ?_ ?k6 ?k7; (case k1 => (refine' lst_up ?a1 ?a2; (case a1 => assumption); (case a2 => assumption))); (case k6 => with_unfolding_all rfl); (case k7 => (intro _; with_unfolding_all rfl))))
section
open Builtin Builtin.Str
variable {ring start step nn : Nat}
theorem empty_len : (Str.ofString "").length = 0 := by decide +kernel
theorem empty_codes : (Str.ofString "").cps.toList = [] := by decide +kernel
theorem piece_codes (hr : ring < 4) (x : Int × Int × Int) : ∀ c ∈ (pieceOf ring x).cps.toList, 256 ≤ c := by
  intro c hc
  have e : (pieceOf ring x).cps.toList = (List.range x.2.2.toNat).map fun (way : Nat) => W ring ((x.1 + x.2.1 * (way : Int)).fmod 16).toNat := by
    unfold pieceOf
    simp
  rw [e] at hc
  obtain ⟨k, _, rfl⟩ := List.mem_map.mp hc
  have a1 := Int.fmod_nonneg_of_pos (x.1 + x.2.1 * (k : Int)) (b := 16) (by decide)
  have a2 := Int.fmod_lt_of_pos (x.1 + x.2.1 * (k : Int)) (b := 16) (by decide)
  exact W_ge hr (by omega)
theorem ps_codes (hr : ring < 4) {S : List (Int × Int × Int)} {sh cd : Bool} : ∀ y ∈ psOf ring S sh cd, ∀ c ∈ y.cps.toList, 256 ≤ c := by
  intro y hy
  unfold psOf at hy
  rcases List.mem_append.mp hy with h | h
  · split at h
    · cases h
    · rw [List.mem_singleton.mp h, empty_codes]; intro c hc; cases hc
  · rcases List.mem_append.mp h with h | h
    · obtain ⟨x, hx, rfl⟩ := List.mem_map.mp h
      exact piece_codes hr x
    · split at h
      · cases h
      · rw [List.mem_singleton.mp h, empty_codes]; intro c hc; cases hc
theorem text_ok (hr : ring < 4) {S : List (Int × Int × Int)} {sh cd : Bool} {a b : Str} {mid : List Str} (hps : psOf ring S sh cd = a :: (mid ++ [b])) (hS : ∀ x ∈ S, 0 ≤ x.2.2 ∧ x.2.2 ≤ 3) (hl : S.length ≤ 8) : TextOk (psOf ring S sh cd) a mid b := by
  have hm := ps_mem (ring := ring) (sh := sh) (cd := cd) hS
  have hc := ps_codes (S := S) (sh := sh) (cd := cd) hr
  have hlen := ps_len (ring := ring) (S := S) (sh := sh) (cd := cd)
  have hsum := sum_le (c := 3) ((psOf ring S sh cd).map (·.length)) (by
    intro x hx
    obtain ⟨y, hy, rfl⟩ := List.mem_map.mp hx
    exact hm y hy)
  have hjl := StrLaws.join_length_le (Str.ofString "...") (psOf ring S sh cd)
  rw [dots_len] at hjl
  rw [List.length_map] at hsum
  have hj : (Txt.join (Str.ofString "...") (psOf ring S sh cd)).length ≤ 1000 := by
    unfold Txt.join
    rw [StrLaws.glued_eq_join]
    omega
  rw [hps] at hm hc hlen hj ⊢
  obtain ⟨q, r, e⟩ : ∃ q r, mid ++ [b] = q :: r := by
    cases mid with
    | nil => exact ⟨b, [], rfl⟩
    | cons q m => exact ⟨q, m ++ [b], rfl⟩
  have hsj : Txt.split (Txt.join (Str.ofString "...") (a :: (mid ++ [b]))) (Str.ofString "...") = a :: (mid ++ [b]) ∧ (occurrences (Txt.join (Str.ofString "...") (a :: (mid ++ [b]))) (Str.ofString "...") 0 (Txt.join (Str.ofString "...") (a :: (mid ++ [b]))).length 1).isEmpty = false := by
    rw [e] at hc ⊢
    exact split_join hc
  refine ⟨hsj.1, hsj.2, hj, ?_, ?_, ?_, ?_⟩
  · exact Nat.le_trans (hm a (.head _)) (by decide)
  · exact Nat.le_trans (hm b (List.mem_cons_of_mem _ (List.mem_append_right _ (.head _)))) (by decide)
  · intro y hy
    exact Nat.le_trans (hm y (List.mem_cons_of_mem _ (List.mem_append_left _ hy))) (by decide)
  · rw [List.length_cons, List.length_append] at hlen
    simp at hlen
    omega
theorem fits_false {S : List (Int × Int × Int)} {ck : List (List Nat)} {cd : Bool} {r : Int} (hz : 0 ≤ lastZ S) (h : ¬ r ≤ (nn : Int)) : fitsF S ck cd r nn = false := by
  unfold fitsF
  split
  · rw [decide_eq_false (by omega), Bool.false_and]
  · exact decide_eq_false h
theorem back_open {S : List (Int × Int × Int)} {ck : List (List Nat)} {vs : List Str} {sp : Nat} {r : Int} (h : ell3 (vs ++ [Str.ofString ""]) (gotOf ring start step nn) sp nn = decide (r ≤ (nn : Int))) : ell2 vs (Str.ofString "") (gotOf ring start step nn) sp = fitsF S ck false r nn := by
  unfold ell2
  rw [if_pos empty_len, got_len, h]
  rfl
theorem back_closed {S : List (Int × Int × Int)} {xl : Int × Int × Int} {ck : List (List Nat)} {vs : List Str} {sp : Nat} {r : Int} (hr : ring < 4) (hs : start < 16) (hst : step < 16) (hx : XOk xl) (h3 : xl.2.2 = 3) (hZ : lastZ S = 3) (hck : ck.getD (ck.length - 1) [] = hoursF start step xl) (hr0 : 0 ≤ r)
    (h : ∀ hi, hi ≤ nn → ell3 vs (gotOf ring start step nn) sp hi = decide (r ≤ (hi : Int))) : ell2 vs (pieceOf ring xl) (gotOf ring start step nn) sp = fitsF S ck true r nn := by
  have hl : (pieceOf ring xl).length = 3 := by rw [piece_size, h3]; rfl
  unfold ell2 fitsF Txt.endswith
  rw [hl, if_neg (by decide), if_pos rfl, hck, hZ, got_len]
  by_cases c : 3 ≤ nn
  · have hA := at_iff (ring := ring) (start := start) (step := step) (nn := nn) (p := nn - 3) (x := xl) hr hs hst hx (by omega) (by rw [h3]; show nn - 3 + 3 ≤ nn; omega)
    have hcast : ((nn : Int) - 3) = ((nn - 3 : Nat) : Int) := by omega
    have hany : (((hoursF start step xl).map fun (n : Nat) => (n : Int)).any fun x => x == ((nn : Int) - 3).fmod 16) = true ↔ (nn - 3) % 16 ∈ hoursF start step xl := by
      rw [hcast, Int.fmod_eq_emod_of_nonneg _ (by decide), List.any_eq_true]
      constructor
      · rintro ⟨y, hy, e⟩
        obtain ⟨k, hk, rfl⟩ := List.mem_map.mp hy
        rw [beq_iff_eq] at e
        have : k = (nn - 3) % 16 := by omega
        rw [← this]
        exact hk
      · intro hk
        exact ⟨_, List.mem_map.mpr ⟨_, hk, rfl⟩, by rw [beq_iff_eq]; omega⟩
    by_cases q : (nn - 3) % 16 ∈ hoursF start step xl
    · rw [hA.mpr q, hany.mpr q, Bool.and_true, Bool.and_true, if_pos (by simp; omega), h _ (Nat.sub_le _ _), hcast]
    · have e1 : subAt (gotOf ring start step nn) (pieceOf ring xl) (nn - 3) = false := by
        cases e : subAt (gotOf ring start step nn) (pieceOf ring xl) (nn - 3) with
        | false => rfl
        | true => exact absurd (hA.mp e) q
      have e2 : (((hoursF start step xl).map fun (n : Nat) => (n : Int)).any fun x => x == ((nn : Int) - 3).fmod 16) = false := by
        cases e : (((hoursF start step xl).map fun (n : Nat) => (n : Int)).any fun x => x == ((nn : Int) - 3).fmod 16) with
        | false => rfl
        | true => exact absurd (hany.mp e) q
      rw [e1, e2, Bool.and_false, Bool.and_false]
      rfl
  · rw [decide_eq_false (by omega : ¬ 0 + 3 ≤ nn), Bool.false_and, decide_eq_false (by omega), Bool.false_and]
    rfl
/-- the front: with nothing ahead; or an opening stretch of colours -/
theorem front_open {mid : List Str} {b : Str} {got : Str} : ellF (Str.ofString "") mid b got = ell2 (Str.ofString "" :: mid) b got 0 := by
  unfold ellF
  rw [if_pos empty_len]
theorem front_zero {x0 : Int × Int × Int} {mid : List Str} {b : Str} {got : Str} (h : ¬ 0 < x0.2.2) : ellF (pieceOf ring x0) mid b got = ell2 (pieceOf ring x0 :: mid) b got 0 := by
  unfold ellF
  rw [if_pos (by rw [piece_size]; omega)]
theorem front_some {x0 : Int × Int × Int} {mid : List Str} {b : Str} {v : Bool} (hr : ring < 4) (hs : start < 16) (hst : step < 16) (hx : XOk x0) (h : 0 < x0.2.2) (h1 : x0.2.2.toNat ≤ nn → 0 ∈ hoursF start step x0 → ell2 mid b (gotOf ring start step nn) x0.2.2.toNat = v) (h2 : ¬ (x0.2.2.toNat ≤ nn ∧ 0 ∈ hoursF start step x0) → v = false) : ellF (pieceOf ring x0) mid b (gotOf ring start step nn) = v := by
  unfold ellF Txt.startswith
  rw [if_neg (by rw [piece_size]; omega), piece_size, got_len]
  by_cases c : x0.2.2.toNat ≤ nn
  · have hA := at_iff (ring := ring) (start := start) (step := step) (nn := nn) (p := 0) (x := x0) hr hs hst hx h (by omega)
    rw [Nat.zero_mod] at hA
    by_cases q : 0 ∈ hoursF start step x0
    · rw [hA.mpr q, Bool.and_true, if_pos (by simp; omega)]
      exact h1 c q
    · have e1 : subAt (gotOf ring start step nn) (pieceOf ring x0) 0 = false := by
        cases e : subAt (gotOf ring start step nn) (pieceOf ring x0) 0 with
        | false => rfl
        | true => exact absurd (hA.mp e) q
      rw [e1, Bool.and_false, h2 (fun w => q w.2)]
      rfl
  · rw [decide_eq_false (by omega : ¬ 0 + x0.2.2.toNat ≤ nn), Bool.false_and, h2 (fun w => c w.1)]
    rfl
end

end
section
local macro_rules | `(tactic| walk_at "binaryOp Mod float float") => `(tactic| (refine AutoFloatOps.mod_1 (by decide +kernel) ?_; dsimp only [Made.post]))
local macro_rules | `(tactic| walk_at "my bar") => `(tactic| (
  (fail_if_success (with_reducible show wpAny _ _ (pyIter _) _ _ _)); (fail_if_success (with_reducible show wpAny _ _ (exec (Stmt.For _ _ _ _ _) _) _ _ _)); (fail_if_success (with_reducible show wpAny _ _ (eval (Expr.ListComp _ _ _ _) _) _ _ _)); (fail_if_success (with_reducible show wpAny _ _ (exec (Stmt.Assign _ (Expr.ListComp _ _ _ _) _) _) _ _ _))))
local macro_rules | `(tactic| walk_at "my go") => `(tactic| repeat' (first | (k_unfold; (try dsimp only)) | (walk_at "my bar"; walk1) | (walk_at "my bar"; dsimp only; walk_at "my bar"; walk1)))
local macro_rules | `(tactic| walk_at "my for") => `(tactic| (refine' forV ?k1 ?k2 ?k3 ?k4 ?_; (case k1 => k_asm); (case k2 => rfl); (case k3 => rfl); (case k4 => (intro _; rfl)); (try k_fold)))
local macro_rules | `(tactic| walk_at "eval Name") => `(tactic| (refine' Sees.at ?k1 ?k2 ?_ ?k3; (case k1 => assumption); (case k2 => assumption); (case k3 => decide)))
local macro_rules | `(tactic| walk_at "binaryOp Div int float") => `(tactic| (refine AutoFloatOps.truediv_if_2 (Float64.ofInt_fits (by assumption)) (by decide +kernel) ?_; dsimp only [Made.post]))
local macro_rules | `(tactic| walk_at "call ref") => `(tactic| ((with_reducible show wpAny _ _ (call (Value.ref 35) _) _ _ _); refine' useK ?k1 ?k2 (c_v ?k3 ?k4 ?k5 ?k6 _ _ _ _ _ _) ?_; (case k1 => k_asm); (case k2 => k_asm); (case k3 => k_asm); (case k4 => assumption); (case k5 => exact Fr.keep (by k_asm)); (case k6 => (dsimp only [Ar, Around.deeper]; omega)); intro v' h' tk' K' F' N' P'; obtain ⟨t', P'⟩ := P'; subst P'; (try k_sweep)))
local macro_rules | `(tactic| walk_at "call type:int") => `(tactic| ((with_reducible show wpAny _ _ (call (Value.type "int") [Value.float _ _]) _ _ _); refine int_fin (by assumption) ?_))
local macro_rules | `(tactic| walk_at "binaryOp Sub float int") => `(tactic| ((with_reducible show wpAny _ _ (binaryOp Operator.Sub (Value.float _ _) (Value.int _ _)) _ _ _); refine sub_fi_fits (by assumption) ?_))
local macro_rules | `(tactic| walk_at "call ref") => `(tactic| ((with_reducible show wpAny _ _ (call (Value.ref 42) _) _ _ _); refine' useS ?k1 (c_hsv ?k3 ?k4 ?k1 ?k6 _ _ _ _ _ _ ?k7 ?k8) ?_; (case k1 => assumption); (case k3 => assumption); (case k4 => assumption); (case k6 => (dsimp only [Ar, Around.deeper]; omega)); (case k7 => assumption); (case k8 => assumption); intro v' h' tk' st' P'; (have X' := Frag.In.keeps (by assumption) st'); obtain ⟨l', t1', t2', t3', P', hl'⟩ := P'; subst P'))
local macro_rules | `(tactic| walk_at "call ref") => `(tactic| ((with_reducible show wpAny _ _ (call (Value.ref 28) _) _ _ _); refine' useS ?k1 (c_hls ?k3 ?k4 ?k1 ?k6 _ _ _ _ _ _) ?_; (case k1 => assumption); (case k3 => assumption); (case k4 => assumption); (case k6 => (dsimp only [Ar, Around.deeper]; omega)); intro v' h' tk' st' P'; (have X' := Frag.In.keeps (by assumption) st'); obtain ⟨l', t1', t2', t3', P', hl'⟩ := P'; subst P'))
local macro_rules | `(tactic| walk_at "call ref") => `(tactic| ((with_reducible show wpAny _ _ (call (Value.ref 49) _) _ _ _); refine' useS ?k1 (c_sign ?k3 ?k4 ?k1 ?k6 _ _ _ _ _ _ _ ?k7 ?k8 ?k9 ?k10) ?_; (case k1 => assumption); (case k3 => assumption); (case k4 => assumption); (case k6 => (dsimp only [Ar, Around.deeper]; omega)); (case k7 => assumption); (case k8 => assumption); (case k9 => assumption); (case k10 => assumption); intro v' h' tk' st' P'; (have X' := Frag.In.keeps (by assumption) st'); obtain ⟨t', P'⟩ := P'; subst P'))
local macro_rules | `(tactic| walk_at "subscriptTail Name Name ref int") => `(tactic| (refine' item_litK ?k1 ?k2 ?k3 ?k4 ?_ ?k6; (case k4 => assumption); (case k1 => (refine' lst_up ?a1 ?a2; (case a1 => assumption); (case a2 => assumption))); (case k2 => omega); (case k3 => omega); (case k6 => with_unfolding_all rfl)))
local macro_rules | `(tactic| walk_at "truthy str") => `(tactic| refine P.truthy_str (by omega) ?_)
local macro_rules | `(tactic| walk_at "my go assert") => `(tactic| repeat' (first | (k_unfold; (try dsimp only)) | (walk_at "my bar"; (fail_if_success (with_reducible show wpAny _ _ (exec (Stmt.Assert _ _ _) _) _ _ _)); walk1) | (walk_at "my bar"; (fail_if_success (with_reducible show wpAny _ _ (exec (Stmt.Assert _ _ _) _) _ _ _)); dsimp only; walk_at "my bar"; (fail_if_success (with_reducible show wpAny _ _ (exec (Stmt.Assert _ _ _) _) _ _ _)); walk1)))
local macro_rules | `(tactic| walk_at "subscriptTail Name Constant ref int") => `(tactic| (refine' item_litK ?k1 ?k2 ?k3 ?k4 ?_ ?k6; (case k4 => assumption); (case k1 => exact News.isList (by assumption) (by k_mem)); (case k2 => decide); (case k3 => decide); (case k6 => with_unfolding_all rfl)))
local macro_rules | `(tactic| walk_at "subscriptTail Name UnaryOp ref int") => `(tactic| (refine' item_last ?k1 ?_ ?k6 ?k7; (case k1 => exact News.isList (by assumption) (by k_mem)); (case k6 => with_unfolding_all rfl); (case k7 => (intro _; with_unfolding_all rfl))))
local macro_rules | `(tactic| walk_at "call builtin:str.find") => `(tactic| ((with_reducible show wpAny _ _ (call (Value.builtin _) [_, _, _, _]) _ _ _); refine find4 (by omega) ?_))
local macro_rules | `(tactic| walk_at "subscriptTail Name BinOp ref int") => `(tactic| (refine' item_litK ?k1 ?k2 ?k3 ?k4 ?_ ?k6; (case k4 => assumption); (case k1 => assumption); (case k2 => omega); (case k3 => omega); (case k6 => with_unfolding_all rfl)))
local macro_rules | `(tactic| walk_at "binaryOp Add ref ref") => `(tactic| (refine' add_arrays ?k1 ?k2 ?k3 ?k4 ?_ ?k5; (case k1 => k_asm); (case k2 => k_asm); (case k3 => exact News.isList (by assumption) (by k_mem)); (case k4 => exact News.isList (by assumption) (by k_mem)); (case k5 => (rw [sizeLine_eq]; simp; omega)); intro h' F' N'; (try k_sweep)))
local macro_rules | `(tactic| walk_at "subscriptTail Name UnaryOp ref int") => `(tactic| (refine' item_last ?k1 ?_ ?k6 ?k7; (case k1 => (refine' lst_up ?a1 ?a2; (case a1 => assumption); (case a2 => assumption))); (case k6 => with_unfolding_all rfl); (case k7 => (intro _; with_unfolding_all rfl))))
section
open Builtin Builtin.Str
variable {ring start step nn : Nat}
theorem tail_nil (got : Str) (hi : Nat) : ∀ p, p ≤ hi → runF got [] p hi = true := fun _ _ => rfl
theorem tail_one (got : Str) (hi : Nat) : ∀ p, p ≤ hi → runF got [Str.ofString ""] p hi = true := by
  intro p hp
  rw [runF_cons, find_empty empty_len hp, if_neg (by omega)]
  rfl
theorem ell3_zero {ws : List Str} {got : Str} {hi : Nat} : ell3 ws got 0 hi = runF got ws 0 hi := by
  unfold ell3
  rw [if_pos (Nat.zero_le _)]
theorem plain_of {x0 xl : Int × Int × Int} {Sm : List (Int × Int × Int)} (hr : ring < 4) (hs : start < 16) (hst : step < 16) (hS : ∀ x ∈ x0 :: (Sm ++ [xl]), XOk x) (h3 : xl.2.2 = 3) (hlen : (x0 :: (Sm ++ [xl])).length ≤ 8) (sh cd : Bool) :
    ∃ a mid b, TextOk (psOf ring (x0 :: (Sm ++ [xl])) sh cd) a mid b ∧ ∀ spot (nn : Nat), nn ≤ 40 → Ended sh (szOf (x0 :: (Sm ++ [xl])) cd) ((x0 :: (Sm ++ [xl])).map (hoursF start step)) spot →
      ellF a mid b (Txt.slice (wkOf ring start step) none (some (nn : Int))) = fitsF (x0 :: (Sm ++ [xl])) ((x0 :: (Sm ++ [xl])).map (hoursF start step)) cd spot nn := by
  have hSb : ∀ x ∈ x0 :: (Sm ++ [xl]), 0 ≤ x.2.2 ∧ x.2.2 ≤ 3 := fun x hx => (hS x hx).2.2
  have hx0 : XOk x0 := hS x0 (.head _)
  have hxl : XOk xl := hS xl (List.mem_cons_of_mem _ (List.mem_append_right _ (.head _)))
  have hS' : ∀ x ∈ x0 :: Sm, XOk x := by
    intro x hx
    rcases List.mem_cons.mp hx with rfl | hx
    · exact hx0
    · exact hS x (List.mem_cons_of_mem _ (List.mem_append_left _ hx))
  have hck : ∀ (i : Nat) x, (x0 :: (Sm ++ [xl]))[i]? = some x → ((x0 :: (Sm ++ [xl])).map (hoursF start step))[i]? = some (hoursF start step x) := by
    intro i x e
    rw [List.getElem?_map, e]
    rfl
  have hck' : ∀ (i : Nat) x, (x0 :: Sm)[i]? = some x → ((x0 :: (Sm ++ [xl])).map (hoursF start step))[i]? = some (hoursF start step x) := by
    intro i x e
    refine hck i x ?_
    rw [← List.cons_append, List.getElem?_append_left (List.getElem?_eq_some_iff.mp e).1, e]
  have hlast : ((x0 :: (Sm ++ [xl])).map (hoursF start step)).getD (((x0 :: (Sm ++ [xl])).map (hoursF start step)).length - 1) [] = hoursF start step xl := by
    rw [List.getD_eq_getElem?_getD, hck _ xl]
    · rfl
    · rw [List.length_map, ← List.cons_append, List.length_append, List.getElem?_append_right (by simp)]
      simp
  have hZ : lastZ (x0 :: (Sm ++ [xl])) = 3 := by
    unfold lastZ
    have e : (-1 + ((List.map (fun (x : Int × Int × Int) => x.2.2) (x0 :: (Sm ++ [xl]))).length : Int)).toNat = (x0 :: Sm).length := by
      simp
      omega
    rw [e, List.getD_eq_getElem?_getD, List.getElem?_map, ← List.cons_append, List.getElem?_append_right (Nat.le_refl _), Nat.sub_self]
    exact h3
  have hszT : szOf (x0 :: (Sm ++ [xl])) true = (x0 :: Sm).map fun x => x.2.2 := by
    unfold szOf
    rw [if_pos rfl, List.length_map, ← List.cons_append, List.map_append, List.length_append]
    exact List.take_left' (by simp)
  have hszF : szOf (x0 :: (Sm ++ [xl])) false = (x0 :: (Sm ++ [xl])).map fun x => x.2.2 := by
    unfold szOf
    rw [if_neg (by decide)]
  have hnn : ∀ {sh cd : Bool} {r : Int}, Ended sh (szOf (x0 :: (Sm ++ [xl])) cd) ((x0 :: (Sm ++ [xl])).map (hoursF start step)) r → 0 ≤ r := by
    intro sh cd r hE
    refine ended_nonneg ?_ hE
    intro z hz
    have h1 : z ∈ (x0 :: (Sm ++ [xl])).map (fun x => x.2.2) := by
      unfold szOf at hz
      split at hz
      · exact List.mem_of_mem_take hz
      · exact hz
    obtain ⟨x, hx, rfl⟩ := List.mem_map.mp h1
    exact hSb x hx
  cases sh with
  | false =>
    cases cd with
    | false =>
      refine ⟨Str.ofString "", (x0 :: (Sm ++ [xl])).map (pieceOf ring), Str.ofString "", text_ok hr rfl hSb hlen, ?_⟩
      intro r nn h40 hE
      rw [slice_got h40, front_open]
      rw [hszF] at hE
      refine back_open ?_
      rw [ell3_zero]
      exact kA hr hs hst (Nat.le_refl _) h40 hS hck (tail_one _ _) hE
    | true =>
      refine ⟨Str.ofString "", (x0 :: Sm).map (pieceOf ring), pieceOf ring xl, text_ok hr (by simp [psOf]) hSb hlen, ?_⟩
      intro r nn h40 hE
      have hr0 := hnn hE
      rw [slice_got h40, front_open]
      rw [hszT] at hE
      refine back_closed hr hs hst hxl h3 hZ hlast hr0 ?_
      intro hi hhi
      rw [ell3_zero]
      have := kA hr hs hst hhi h40 hS' hck' (tail_nil _ _) hE
      rw [List.append_nil] at this
      exact this
  | true =>
    cases cd with
    | false =>
      refine ⟨pieceOf ring x0, (Sm ++ [xl]).map (pieceOf ring), Str.ofString "", text_ok hr rfl hSb hlen, ?_⟩
      intro r nn h40 hE
      rw [slice_got h40]
      rw [hszF] at hE
      by_cases h0 : 0 < x0.2.2
      · refine front_some hr hs hst hx0 h0 ?_ ?_
        · intro _ hm
          exact back_open (kC hr hs hst (Nat.le_refl _) h40 hS hck (tail_one _ _) h0 hm hE)
        · intro q
          refine fits_false (by omega) ?_
          by_cases hm : 0 ∈ hoursF start step x0
          · have hz : ¬ x0.2.2.toNat ≤ nn := fun w => q ⟨w, hm⟩
            have := kC (nn := nn) hr hs hst (Nat.le_refl _) h40 hS hck (tail_one _ _) h0 hm hE
            unfold ell3 at this
            rw [if_neg hz] at this
            exact of_decide_eq_false this.symm
          · rw [kD hck h0 hm hE]
            omega
      · rw [front_zero h0]
        refine back_open ?_
        rw [ell3_zero]
        exact kB hr hs hst (Nat.le_refl _) h40 hS hck (tail_one _ _) h0 hE
    | true =>
      refine ⟨pieceOf ring x0, Sm.map (pieceOf ring), pieceOf ring xl, text_ok hr (by simp [psOf]) hSb hlen, ?_⟩
      intro r nn h40 hE
      have hr0 := hnn hE
      rw [slice_got h40]
      rw [hszT] at hE
      by_cases h0 : 0 < x0.2.2
      · refine front_some hr hs hst hx0 h0 ?_ ?_
        · intro _ hm
          refine back_closed hr hs hst hxl h3 hZ hlast hr0 ?_
          intro hi hhi
          have := kC hr hs hst hhi h40 hS' hck' (tail_nil _ _) h0 hm hE
          rw [List.append_nil] at this
          exact this
        · intro q
          refine fits_false (by omega) ?_
          by_cases hm : 0 ∈ hoursF start step x0
          · have hz : ¬ x0.2.2.toNat ≤ nn := fun w => q ⟨w, hm⟩
            have := kC (nn := nn) hr hs hst (Nat.le_refl _) h40 hS' hck' (tail_nil _ _) h0 hm hE
            unfold ell3 at this
            rw [if_neg hz] at this
            exact of_decide_eq_false this.symm
          · rw [kD hck' h0 hm hE]
            omega
      · rw [front_zero h0]
        refine back_closed hr hs hst hxl h3 hZ hlast hr0 ?_
        intro hi hhi
        rw [ell3_zero]
        have := kB hr hs hst hhi h40 hS' hck' (tail_nil _ _) h0 hE
        rw [List.append_nil] at this
        exact this
theorem plain_all (ns : List Int) (hl : ns.length ≤ 6) (hr : ring < 4) (hs : start < 16) (hst : step < 16) : Plain ring start step (ns ++ [3, 15]) := by
  have hlen : (stsOf start step (ns ++ [3, 15])).length = ns.length + 2 := by rw [sts_len]; simp
  have hb : ∀ x ∈ stsOf start step (ns ++ [3, 15]), XOk x := sts_bounds hst
  have hlast : (stsOf start step (ns ++ [3, 15]))[ns.length + 1]? = some (strAt start step (ns ++ [3, 15]) (ns.length + 1)) := sts_at (by simp)
  have h15 : (strAt start step (ns ++ [3, 15]) (ns.length + 1)).2.2 = 3 := by
    unfold strAt str1
    dsimp only
    have e : (ns ++ [3, 15]).getD (ns.length + 1) 0 = (15 : Int) := by
      rw [List.getD_eq_getElem?_getD, List.getElem?_append_right (by omega)]
      simp
    rw [e]
    rfl
  unfold Plain
  generalize stsOf start step (ns ++ [3, 15]) = S at *
  obtain ⟨x0, Sm, xl, rfl⟩ : ∃ x0 Sm xl, S = x0 :: (Sm ++ [xl]) := by
    cases S with
    | nil => simp at hlen
    | cons x0 r =>
      have hr' : r ≠ [] := by
        intro e
        rw [e] at hlen
        simp at hlen
      exact ⟨x0, r.dropLast, r.getLast hr', by rw [List.dropLast_concat_getLast]⟩
  have hxl : xl = strAt start step (ns ++ [3, 15]) (ns.length + 1) := by
    have h1 : Sm.length = ns.length := by simpa using hlen
    rw [List.getElem?_cons_succ, ← h1, List.getElem?_append_right (Nat.le_refl _), Nat.sub_self] at hlast
    rw [← h1]
    exact Option.some.inj hlast
  rw [← hxl] at h15
  exact plain_of hr hs hst hb h15 (by omega)
end

end
section
local macro_rules | `(tactic| walk_at "binaryOp Mod float float") => `(tactic| (refine AutoFloatOps.mod_1 (by decide +kernel) ?_; dsimp only [Made.post]))
local macro_rules | `(tactic| walk_at "my bar") => `(tactic| (
  (fail_if_success (with_reducible show wpAny _ _ (pyIter _) _ _ _)); (fail_if_success (with_reducible show wpAny _ _ (exec (Stmt.For _ _ _ _ _) _) _ _ _)); (fail_if_success (with_reducible show wpAny _ _ (eval (Expr.ListComp _ _ _ _) _) _ _ _)); (fail_if_success (with_reducible show wpAny _ _ (exec (Stmt.Assign _ (Expr.ListComp _ _ _ _) _) _) _ _ _))))
local macro_rules | `(tactic| walk_at "my go") => `(tactic| repeat' (first | (k_unfold; (try dsimp only)) | (walk_at "my bar"; walk1) | (walk_at "my bar"; dsimp only; walk_at "my bar"; walk1)))
local macro_rules | `(tactic| walk_at "my for") => `(tactic| (refine' forV ?k1 ?k2 ?k3 ?k4 ?_; (case k1 => k_asm); (case k2 => rfl); (case k3 => rfl); (case k4 => (intro _; rfl)); (try k_fold)))
local macro_rules | `(tactic| walk_at "eval Name") => `(tactic| (refine' Sees.at ?k1 ?k2 ?_ ?k3; (case k1 => assumption); (case k2 => assumption); (case k3 => decide)))
local macro_rules | `(tactic| walk_at "binaryOp Div int float") => `(tactic| (refine AutoFloatOps.truediv_if_2 (Float64.ofInt_fits (by assumption)) (by decide +kernel) ?_; dsimp only [Made.post]))
local macro_rules | `(tactic| walk_at "call ref") => `(tactic| ((with_reducible show wpAny _ _ (call (Value.ref 35) _) _ _ _); refine' useK ?k1 ?k2 (c_v ?k3 ?k4 ?k5 ?k6 _ _ _ _ _ _) ?_; (case k1 => k_asm); (case k2 => k_asm); (case k3 => k_asm); (case k4 => assumption); (case k5 => exact Fr.keep (by k_asm)); (case k6 => (dsimp only [Ar, Around.deeper]; omega)); intro v' h' tk' K' F' N' P'; obtain ⟨t', P'⟩ := P'; subst P'; (try k_sweep)))
local macro_rules | `(tactic| walk_at "call type:int") => `(tactic| ((with_reducible show wpAny _ _ (call (Value.type "int") [Value.float _ _]) _ _ _); refine int_fin (by assumption) ?_))
local macro_rules | `(tactic| walk_at "binaryOp Sub float int") => `(tactic| ((with_reducible show wpAny _ _ (binaryOp Operator.Sub (Value.float _ _) (Value.int _ _)) _ _ _); refine sub_fi_fits (by assumption) ?_))
local macro_rules | `(tactic| walk_at "call ref") => `(tactic| ((with_reducible show wpAny _ _ (call (Value.ref 42) _) _ _ _); refine' useS ?k1 (c_hsv ?k3 ?k4 ?k1 ?k6 _ _ _ _ _ _ ?k7 ?k8) ?_; (case k1 => assumption); (case k3 => assumption); (case k4 => assumption); (case k6 => (dsimp only [Ar, Around.deeper]; omega)); (case k7 => assumption); (case k8 => assumption); intro v' h' tk' st' P'; (have X' := Frag.In.keeps (by assumption) st'); obtain ⟨l', t1', t2', t3', P', hl'⟩ := P'; subst P'))
local macro_rules | `(tactic| walk_at "call ref") => `(tactic| ((with_reducible show wpAny _ _ (call (Value.ref 28) _) _ _ _); refine' useS ?k1 (c_hls ?k3 ?k4 ?k1 ?k6 _ _ _ _ _ _) ?_; (case k1 => assumption); (case k3 => assumption); (case k4 => assumption); (case k6 => (dsimp only [Ar, Around.deeper]; omega)); intro v' h' tk' st' P'; (have X' := Frag.In.keeps (by assumption) st'); obtain ⟨l', t1', t2', t3', P', hl'⟩ := P'; subst P'))
local macro_rules | `(tactic| walk_at "call ref") => `(tactic| ((with_reducible show wpAny _ _ (call (Value.ref 49) _) _ _ _); refine' useS ?k1 (c_sign ?k3 ?k4 ?k1 ?k6 _ _ _ _ _ _ _ ?k7 ?k8 ?k9 ?k10) ?_; (case k1 => assumption); (case k3 => assumption); (case k4 => assumption); (case k6 => (dsimp only [Ar, Around.deeper]; omega)); (case k7 => assumption); (case k8 => assumption); (case k9 => assumption); (case k10 => assumption); intro v' h' tk' st' P'; (have X' := Frag.In.keeps (by assumption) st'); obtain ⟨t', P'⟩ := P'; subst P'))
local macro_rules | `(tactic| walk_at "subscriptTail Name Name ref int") => `(tactic| (refine' item_litK ?k1 ?k2 ?k3 ?k4 ?_ ?k6; (case k4 => assumption); (case k1 => (refine' lst_up ?a1 ?a2; (case a1 => assumption); (case a2 => assumption))); (case k2 => omega); (case k3 => omega); (case k6 => with_unfolding_all rfl)))
local macro_rules | `(tactic| walk_at "truthy str") => `(tactic| refine P.truthy_str (by omega) ?_)
local macro_rules | `(tactic| walk_at "my go assert") => `(tactic| repeat' (first | (k_unfold; (try dsimp only)) | (walk_at "my bar"; (fail_if_success (with_reducible show wpAny _ _ (exec (Stmt.Assert _ _ _) _) _ _ _)); walk1) | (walk_at "my bar"; (fail_if_success (with_reducible show wpAny _ _ (exec (Stmt.Assert _ _ _) _) _ _ _)); dsimp only; walk_at "my bar"; (fail_if_success (with_reducible show wpAny _ _ (exec (Stmt.Assert _ _ _) _) _ _ _)); walk1)))
local macro_rules | `(tactic| walk_at "subscriptTail Name Constant ref int") => `(tactic| (refine' item_litK ?k1 ?k2 ?k3 ?k4 ?_ ?k6; (case k4 => assumption); (case k1 => exact News.isList (by assumption) (by k_mem)); (case k2 => decide); (case k3 => decide); (case k6 => with_unfolding_all rfl)))
local macro_rules | `(tactic| walk_at "subscriptTail Name UnaryOp ref int") => `(tactic| (refine' item_last ?k1 ?_ ?k6 ?k7; (case k1 => exact News.isList (by assumption) (by k_mem)); (case k6 => with_unfolding_all rfl); (case k7 => (intro _; with_unfolding_all rfl))))
local macro_rules | `(tactic| walk_at "call builtin:str.find") => `(tactic| ((with_reducible show wpAny _ _ (call (Value.builtin _) [_, _, _, _]) _ _ _); refine find4 (by omega) ?_))
local macro_rules | `(tactic| walk_at "subscriptTail Name BinOp ref int") => `(tactic| (refine' item_litK ?k1 ?k2 ?k3 ?k4 ?_ ?k6; (case k4 => assumption); (case k1 => assumption); (case k2 => omega); (case k3 => omega); (case k6 => with_unfolding_all rfl)))
local macro_rules | `(tactic| walk_at "binaryOp Add ref ref") => `(tactic| (refine' add_arrays ?k1 ?k2 ?k3 ?k4 ?_ ?k5; (case k1 => k_asm); (case k2 => k_asm); (case k3 => exact News.isList (by assumption) (by k_mem)); (case k4 => exact News.isList (by assumption) (by k_mem)); (case k5 => (rw [sizeLine_eq]; simp; omega)); intro h' F' N'; (try k_sweep)))
local macro_rules | `(tactic| walk_at "subscriptTail Name UnaryOp ref int") => `(tactic| (refine' item_last ?k1 ?_ ?k6 ?k7; (case k1 => (refine' lst_up ?a1 ?a2; (case a1 => assumption); (case a2 => assumption))); (case k6 => with_unfolding_all rfl); (case k7 => (intro _; with_unfolding_all rfl))))
local macro_rules | `(tactic| walk_at "my bar2") => `(tactic| ((fail_if_success (with_reducible show wpAny _ _ (call (Value.ref 86) _) _ _ _)); walk_at "my bar"))
local macro_rules | `(tactic| walk_at "my go2") => `(tactic| repeat' (first | (k_unfold; (try dsimp only)) | (walk_at "my bar2"; walk1) | (walk_at "my bar2"; dsimp only; walk_at "my bar2"; walk1)))
theorem room1 : callerA.depth + 1 + 10 < recursionLimit := by decide
theorem room2 : callerA.units + 3 + 90 < cLine := by decide
theorem len_ok (w : List Int) : 2 ≤ (List.drop 1 (List.take 4 w) ++ [3, 15]).length ∧ (List.drop 1 (List.take 4 w) ++ [3, 15]).length ≤ 8 := by simp; omega
theorem len6 (w : List Int) : (List.drop 1 (List.take 4 w)).length ≤ 6 := by simp; omega
theorem law_try (PL : ∀ (ring start step : Nat) (ns : List Int), ns.length ≤ 6 → ring < 4 → start < 16 → step < 16 → Plain ring start step (ns ++ [3, 15])) : PySem.Challenge.rw_mq0163_01.Holds := hd (by
  k_go0
  (all_goals try k_fold)
  walk_at "my go2"
  · skip
    refine' useK ?k1 ?k2 (c_all ?k3 ?k4 ?k5 ?k6 ?k7 _ _ _ _ _ ?k8 ?k9 ?k10 ?k11) ?_
    case k1 => assumption
    case k2 => assumption
    case k5 => exact Fr.keep (by assumption)
    case k3 => assumption
    case k4 => assumption
    case k6 => exact room1
    case k7 => exact room2
    case k8 => exact News.isList (by assumption) (.head _)
    case k9 => assumption
    case k10 => exact len_ok _
    case k11 => exact fun _ _ _ h1 h2 h3 => PL _ _ _ _ (len6 _) h1 h2 h3
    intro v' h' tk' K' F' N' hP'
    subst hP'
    k_steps
  · skip
    refine' useK ?k1 ?k2 (c_all ?k3 ?k4 ?k5 ?k6 ?k7 _ _ _ _ _ ?k8 ?k9 ?k10 ?k11) ?_
    case k1 => assumption
    case k2 => assumption
    case k5 => exact Fr.keep (by assumption)
    case k3 => assumption
    case k4 => assumption
    case k6 => exact room1
    case k7 => exact room2
    case k8 => exact News.isList (by assumption) (.head _)
    case k9 => exact IntsAre.cons 3 _ (.cons 15 _ .nil)
    case k10 => exact ⟨by decide, by decide⟩
    case k11 => exact fun _ _ _ h1 h2 h3 => PL _ _ _ [] (Nat.zero_le _) h1 h2 h3
    intro v' h' tk' K' F' N' hP'
    subst hP'
    k_steps
  )

end
end Mine
theorem PySem.Challenge.cw_mq0163_01_holds : PySem.Challenge.rw_mq0163_01.Holds := by
  exact Mine.law_try fun _ _ _ ns hl h1 h2 h3 => Mine.plain_all ns hl h1 h2 h3

import PyProof.Rows.All
import Wide.All
import OpenK.AllK
import Wide.FinOn
import PyProof.Rows.WhileGen
import Lean
import PySem.Challenge.RW_pg0197_02
open PySem PySem.W PyProof.Rows
set_option Elab.async false
set_option maxRecDepth 100000
set_option maxHeartbeats 8000000
namespace Mine
open_top hd02 for PySem.Challenge.rw_pg0197_02
end Mine
section
open PySem PySem.W PySem.Spec PySem.Calls PyProof.Rows
-- part Base
namespace Mine

/-- what stands around a call, written out -/
abbrev AtA (d u : Nat) (gd : Option (List Code)) (env : Env) (outer : List Env) : Around :=
  { handled := none, depth := d, frames := some (env :: outer), guards := gd, units := u }

/-- the end of a call that changes nothing that stood before it -/
def EndP (s : Shared) (R : Value → Heap → Prop) (v : Value) (s' : Shared) : Prop :=
  s.heap.StaysIn s'.heap ∧ (∃ h' tk', s' = { s with heap := h', toks := tk' }) ∧ R v s'.heap

theorem EndP.intro {s : Shared} {R : Value → Heap → Prop} {v : Value} {h' : Heap} {tk' : Nat} (k : s.heap.StaysIn h') (r : R v h') :
    EndP s R v { s with heap := h', toks := tk' } := ⟨k, ⟨_, _, rfl⟩, r⟩

theorem with_toksQ {α : Type} {M : Model} {A : Around} {s : Shared} {t : Sem α} {Q : α → Shared → Prop} {E : Value → Shared → Prop} {n : Nat} (hn : n ≤ s.toks) (h : wpAny M A t (fun a s' => n ≤ s'.toks → Q a s') E s) : wpAny M A t Q E s :=
  wpAny_with_toks hn (wpAny_mono h (fun _ _ x => x) fun _ _ x _ => x)

/-- a call of the def at f that changes nothing that stood before it -/
def PureCall (prog : Program) (w : World) (K : Frag) (p : Program) (loose : List Str) (d u : Nat) (f : Addr) (vs : List Value) (R : Heap → Value → Heap → Prop) : Prop :=
  ∀ (gd : Option (List Code)) (env : Env) (outer : List Env) (A₀ : Around) (base h₀ : Heap) (L : Addr) (m : Str → Option Value) (s : Shared) (mean : ExcName → Option Value) (mg mb : Str → Option Value),
    Below A₀ base outer h₀ → Fr h₀ L s.heap m → K.In h₀ → Top p loose mean mg mb h₀ → env.frame = some L → env.scope.kind = .function →
    wpAny (model prog w) (AtA d u gd env outer) (call (.ref f) vs) (EndP s (R s.heap)) (fun _ _ => False) s

theorem around_le {α : Type} {M : Model} {A : Around} {t : Sem α} {Q : α → Shared → Prop} {E : Value → Shared → Prop} {s : Shared} {d u : Nat} {env : Env} {outer : List Env}
    (h : wpAny M (AtA d u A.guards env outer) t Q E s) (h1 : A.handled = none) (h2 : A.frames = some (env :: outer)) (hd : A.depth ≤ d) (hu : A.units ≤ u) : wpAny M A t Q E s :=
  fun Γ p hΓ => h Γ p ⟨hΓ.1.trans h1, Nat.le_trans hΓ.2.1 hd, fun l e => hΓ.2.2.1 l (h2.trans e), hΓ.2.2.2.1, Nat.le_trans hΓ.2.2.2.2 hu⟩

section
variable {prog : Program} {w : World} {A₀ A : Around} {s : Shared} {base h₀ : Heap} {outer : List Env} {L : Addr} {m : Str → Option Value} {env : Env} {K : Frag} {p : Program} {loose : List Str}
  {mean : ExcName → Option Value} {mg mb : Str → Option Value} {news : List (Addr × Obj)}

theorem keepsFr {h h' : Heap} (F : Fr h₀ L h m) (k : h.StaysIn h') : Fr h₀ L h' m := by
  obtain ⟨oL, es, ep, hL, r⟩ := F.ns
  exact ⟨⟨oL, es, ep, k L oL hL, r⟩, fun b o e => k b o (F.keep b o e), F.above⟩
theorem keepsNews {h h' : Heap} (N : News h₀ L h news) (k : h.StaysIn h') : News h₀ L h' news := fun p hp => ⟨k _ _ (N p hp).1, (N p hp).2⟩

theorem news_ne {h : Heap} {a : Addr} {o : Obj} (N : News h₀ L h news) (hm : (a, o) ∈ news) : a ≠ L := (N _ hm).2.1

/-- what a call has made: objects that were not there -/
def Made (h : Heap) (h' : Heap) (l : List (Addr × Obj)) : Prop := ∀ p ∈ l, h'.get? p.1 = some p.2 ∧ h.objs.size ≤ p.1
theorem Made.onto {h h' : Heap} {l : List (Addr × Obj)} (Y : Made h h' l) (F : Fr h₀ L h m) (N : News h₀ L h news) (k : h.StaysIn h') : News h₀ L h' (l ++ news) := by
  obtain ⟨oL, es, ep, hL, r⟩ := F.ns
  intro p hp
  rcases List.mem_append.mp hp with q | q
  · refine ⟨(Y p q).1, Nat.ne_of_gt (Nat.lt_of_lt_of_le (Heap.lt_size hL) (Y p q).2), ?_⟩
    cases e : h₀.get? p.1 with
    | none => rfl
    | some o => exact absurd (Nat.lt_of_lt_of_le (Heap.lt_size (F.keep _ _ e)) (Y p q).2) (Nat.lt_irrefl _)
  · exact keepsNews N k p q
theorem news_lt {h : Heap} (N : News h₀ L h news) : ∀ p ∈ news, p.1 < h.objs.size := fun p hp => Heap.lt_size (N p hp).1
theorem Made.ofL {h h' : Heap} {L' : Addr} {l : List (Addr × Obj)} (N : News h L' h' l) (hl : ∀ p ∈ l, L' < p.1) (hL : h.objs.size ≤ L') : Made h h' l :=
  fun p hp => ⟨(N p hp).1, Nat.le_of_lt (Nat.lt_of_le_of_lt hL (hl p hp))⟩

theorem pure_use {d u : Nat} {f : Addr} {vs : List Value} {R : Heap → Value → Heap → Prop} {Q : Value → Shared → Prop} {E : Value → Shared → Prop}
    (C : PureCall prog w K p loose d u f vs R) (B : Below A₀ base outer h₀) (F : Fr h₀ L s.heap m) (X : K.In h₀) (T : Top p loose mean mg mb h₀) (N : News h₀ L s.heap news)
    (h1 : A.handled = none) (h2 : A.frames = some (env :: outer)) (hf : env.frame = some L) (hk : env.scope.kind = .function) (hd : A.depth ≤ d) (hu : A.units ≤ u)
    (h : ∀ v h' tk', Fr h₀ L h' m → News h₀ L h' news → s.heap.StaysIn h' → R s.heap v h' → Q v { s with heap := h', toks := tk' }) :
    wpAny (model prog w) A (call (.ref f) vs) Q E s := by
  refine around_le ?_ h1 h2 hd hu
  refine wpAny_mono (C A.guards env outer A₀ base h₀ L m s mean mg mb B F X T hf hk) (fun v s' he => ?_) fun _ _ x => x.elim
  obtain ⟨k, ⟨h', tk', rfl⟩, r⟩ := he
  exact h v h' tk' (keepsFr F k) (keepsNews N k) k r
end

/-- the same, of states that have drawn a token -/
def PureCallT (prog : Program) (w : World) (K : Frag) (p : Program) (loose : List Str) (d u : Nat) (f : Addr) (vs : List Value) (R : Heap → Value → Heap → Prop) : Prop :=
  ∀ (gd : Option (List Code)) (env : Env) (outer : List Env) (A₀ : Around) (base h₀ : Heap) (L : Addr) (m : Str → Option Value) (s : Shared) (mean : ExcName → Option Value) (mg mb : Str → Option Value),
    1 ≤ s.toks → Below A₀ base outer h₀ → Fr h₀ L s.heap m → K.In h₀ → Top p loose mean mg mb h₀ → env.frame = some L → env.scope.kind = .function →
    wpAny (model prog w) (AtA d u gd env outer) (call (.ref f) vs) (EndP s (R s.heap)) (fun _ _ => False) s
section
variable {prog : Program} {w : World} {A₀ A : Around} {s : Shared} {base h₀ : Heap} {outer : List Env} {L : Addr} {m : Str → Option Value} {env : Env} {K : Frag} {p : Program} {loose : List Str}
  {mean : ExcName → Option Value} {mg mb : Str → Option Value} {R : Value → Heap → Prop} {name qual : Str} {params : Arguments} {body : List Stmt} {scope : Scope} {dV kV doc pm cdv ct oc : Value} {an od : Option Addr} {osl : Array (Option Value)} {f : Addr} {args : List Value} {binds : List (Str × Value)}

theorem pure_enter (B : Below A₀ base outer h₀) (F : Fr h₀ L s.heap m) (X₀ : K.In h₀) (T : Top p loose mean mg mb h₀) (hA : A.frames = some (env :: outer)) (hf : env.frame = some L) (hke : env.scope.kind = .function)
    (ho : K.lookup f = some ⟨oc, od, .func (fnOf name qual params body scope dV kV doc pm an cdv ct), osl⟩) (hcd : codeIn K cdv qual = true) (hroom : A.depth < recursionLimit)
    (hbind : BindsTo s (fnOf name qual params body scope dV kV doc pm an cdv ct) ⟨args, []⟩ binds) (hloc : ∀ y ∈ binds, scope.names.lookup y.1 = some .local)
    (h : ∀ L' h₁, Fr s.heap L' h₁ (fun y => binds.reverse.lookup y) → News s.heap L' h₁ [] → Below A base (env :: outer) s.heap → K.In s.heap → Top p loose mean mg mb s.heap →
      wpAny (model prog w) (A.deeper (envOf qual scope L' f cdv)) (execs body (envOf qual scope L' f cdv))
        (fun fl s' => EndP s R (match fl with | .ret v => v | _ => .none) s') (fun _ _ => False)
        { s with heap := h₁, toks := s.toks + binds.length })
    (hco : scope.isCoroutine = false) (hgen : scope.isGenerator = false) (hk : scope.kind = .function)
    (hcell : ∀ x ∈ scope.names, x.2 ≠ .cell) : wpAny (model prog w) A (call (.ref f) args) (EndP s R) (fun _ _ => False) s := by
  have hA' : A.frames = some (env :: outer) := hA
  have B₁ := pushX B F hf hke
  have B₂ : Below A base (env :: outer) s.heap := ⟨hA, B₁.stays, B₁.frames⟩
  refine wpAny_call ?_
  refine codeAny_call_def (fd := fnOf name qual params body scope dV kV doc pm an cdv ct) (body := body) (binds := binds) hroom ((X₀.keeps F.keep) _ _ ho) rfl (T.nolimit.keeps F.keep) (codeRec_of (X₀.keeps F.keep) hcd) rfl hbind hcell hloc (fun h₁ hns hk₁ => ?_) hco hgen hk
  exact wpAny_mono (h s.heap.objs.size h₁ ⟨hns, hk₁, Nat.le_refl _⟩ (fun _ hp => nomatch hp) B₂ (X₀.keeps F.keep) (T.keeps F.keep)) (fun fl s' hl => hl) fun _ _ y => y.elim

theorem pure_enterT (ht : 1 ≤ s.toks) (B : Below A₀ base outer h₀) (F : Fr h₀ L s.heap m) (X₀ : K.In h₀) (T : Top p loose mean mg mb h₀) (hA : A.frames = some (env :: outer)) (hf : env.frame = some L) (hke : env.scope.kind = .function)
    (ho : K.lookup f = some ⟨oc, od, .func (fnOf name qual params body scope dV kV doc pm an cdv ct), osl⟩) (hcd : codeIn K cdv qual = true) (hroom : A.depth < recursionLimit)
    (hbind : BindsTo s (fnOf name qual params body scope dV kV doc pm an cdv ct) ⟨args, []⟩ binds) (hloc : ∀ y ∈ binds, scope.names.lookup y.1 = some .local)
    (h : ∀ L' h₁ tk, 1 ≤ tk → Fr s.heap L' h₁ (fun y => binds.reverse.lookup y) → News s.heap L' h₁ [] → Below A base (env :: outer) s.heap → K.In s.heap → Top p loose mean mg mb s.heap →
      wpAny (model prog w) (A.deeper (envOf qual scope L' f cdv)) (execs body (envOf qual scope L' f cdv))
        (fun fl s' => EndP s R (match fl with | .ret v => v | _ => .none) s') (fun _ _ => False)
        { s with heap := h₁, toks := tk })
    (hco : scope.isCoroutine = false) (hgen : scope.isGenerator = false) (hk : scope.kind = .function)
    (hcell : ∀ x ∈ scope.names, x.2 ≠ .cell) : wpAny (model prog w) A (call (.ref f) args) (EndP s R) (fun _ _ => False) s :=
  pure_enter B F X₀ T hA hf hke ho hcd hroom hbind hloc (fun L' h₁ F' N' B' X' T' => h L' h₁ _ (Nat.le_trans ht (Nat.le_add_right _ _)) F' N' B' X' T') hco hgen hk hcell

/-- the end of a class's __init__ -/
def EndI (s : Shared) (x : Addr) (R : Value → Heap → Prop) (v : Value) (s' : Shared) : Prop := v = .none ∧ EndP s R (.ref x) s'
theorem EndI.intro {x : Addr} {h' : Heap} {tk' : Nat} (k : s.heap.StaysIn h') (r : R (.ref x) h') : EndI s x R .none { s with heap := h', toks := tk' } := ⟨rfl, k, ⟨_, _, rfl⟩, r⟩

theorem cls_enter {C : Addr} {bnd : Addr → List (Str × Value)} (B : Below A₀ base outer h₀) (F : Fr h₀ L s.heap m) (X₀ : K.In h₀) (T : Top p loose mean mg mb h₀) (hA : A.frames = some (env :: outer)) (hf : env.frame = some L) (hke : env.scope.kind = .function)
    (hm : makesIn K C = true) (hi : findIn K (.ref C) "__init__" = some (some (.ref f))) (hfn : isFn K (.ref f) = true)
    (ho : K.lookup f = some ⟨oc, od, .func (fnOf name qual params body scope dV kV doc pm an cdv ct), osl⟩) (hcd : codeIn K cdv qual = true) (hroom : A.depth + 1 < recursionLimit)
    (hbind : ∀ x (s : Shared), BindsTo s (fnOf name qual params body scope dV kV doc pm an cdv ct) ⟨.ref x :: args, []⟩ (bnd x)) (hloc : ∀ x, ∀ y ∈ bnd x, scope.names.lookup y.1 = some .local)
    (h : ∀ x dx L' h₁ tk, dx < x → x < L' → s.heap.objs.size ≤ dx → Fr s.heap L' h₁ (fun y => (bnd x).reverse.lookup y) → News s.heap L' h₁ [(x, instObj C dx), (dx, dictOf [] 0)] → Below (A.under (.builtin "type.__call__" ⟨.ref C :: args, []⟩)) base (env :: outer) s.heap → K.In s.heap → Top p loose mean mg mb s.heap →
      wpAny (model prog w) ((A.under (.builtin "type.__call__" ⟨.ref C :: args, []⟩)).deeper (envOf qual scope L' f cdv)) (execs body (envOf qual scope L' f cdv))
        (fun fl s' => EndI s x R (match fl with | .ret v => v | _ => .none) s') (fun _ _ => False)
        { s with heap := h₁, toks := tk })
    (hco : scope.isCoroutine = false) (hgen : scope.isGenerator = false) (hk : scope.kind = .function)
    (hcell : ∀ x ∈ scope.names, x.2 ≠ .cell) : wpAny (model prog w) A (call (.ref C) args) (EndP s R) (fun _ _ => False) s := by
  have X := X₀.keeps F.keep
  have hA' : (A.under (.builtin "type.__call__" ⟨.ref C :: args, []⟩)).frames = some (env :: outer) := hA
  have B₁ := pushX B F hf hke
  have B₂ : Below (A.under (.builtin "type.__call__" ⟨.ref C :: args, []⟩)) base (env :: outer) s.heap := ⟨hA', B₁.stays, B₁.frames⟩
  refine wpAny_call ?_
  obtain ⟨hh, g, d, t, os⟩ := s
  refine make_core (makes_of X hm) (looks_findIn X hi) (fun self => bind_fn X self (beq_iff_eq.mp hfn)) (.inl rfl) ?_
  have st : hh.StaysIn ((hh.push emptyDict).push (instObj C hh.objs.size)) := fun b o e => Heap.get?_push_of_some _ (Heap.get?_push_of_some _ e)
  have hx : ((hh.push emptyDict).push (instObj C hh.objs.size)).get? (hh.objs.size + 1) = some (instObj C hh.objs.size) := by
    have := Heap.get?_push_size (o := instObj C hh.objs.size) (hh.push emptyDict) rfl
    rwa [Heap.size_push] at this
  have hd' : ((hh.push emptyDict).push (instObj C hh.objs.size)).get? hh.objs.size = some emptyDict := Heap.get?_push_of_some _ (Heap.get?_push_size _ rfl)
  have hsz : ((hh.push emptyDict).push (instObj C hh.objs.size)).objs.size = hh.objs.size + 2 := by rw [Heap.size_push, Heap.size_push]
  have fresh : ∀ a, hh.objs.size ≤ a → hh.get? a = none := fun a ha => by
    cases q : hh.get? a with
    | none => rfl
    | some o => exact absurd (Nat.lt_of_lt_of_le (Heap.lt_size q) ha) (Nat.lt_irrefl _)
  refine codeAny_call_def (s := ⟨(hh.push emptyDict).push (instObj C hh.objs.size), g, d, t, os⟩) (fd := fnOf name qual params body scope dV kV doc pm an cdv ct) (body := body) (binds := bnd (hh.objs.size + 1)) (by show A.depth + 1 < _; exact hroom) (st _ _ (X _ _ ho)) rfl ((T.nolimit.keeps F.keep).keeps st) (codeRec_of (X.keeps st) hcd) rfl (hbind _ _) hcell (hloc _) (fun h₁ hns hk₁ => ?_) hco hgen hk
  refine wpAny_mono (h (hh.objs.size + 1) hh.objs.size _ h₁ _ (Nat.lt_succ_self _) (by show hh.objs.size + 1 < ((hh.push emptyDict).push (instObj C hh.objs.size)).objs.size; rw [hsz]; exact Nat.lt_succ_self _) (Nat.le_refl _) ⟨hns, fun b o e => hk₁ b o (st b o e), by show hh.objs.size ≤ ((hh.push emptyDict).push (instObj C hh.objs.size)).objs.size; rw [hsz]; omega⟩ ?_ B₂ X (T.keeps F.keep)) (fun fl s' hl => hl) fun _ _ y => y.elim
  intro p hp
  rcases List.mem_cons.mp hp with rfl | hp
  · exact ⟨hk₁ _ _ hx, by show hh.objs.size + 1 ≠ ((hh.push emptyDict).push (instObj C hh.objs.size)).objs.size; rw [hsz]; exact Nat.ne_of_lt (Nat.lt_succ_self _), fresh _ (Nat.le_succ _)⟩
  · rw [List.mem_singleton.mp hp]
    exact ⟨hk₁ _ _ hd', by show hh.objs.size ≠ ((hh.push emptyDict).push (instObj C hh.objs.size)).objs.size; rw [hsz]; omega, fresh _ (Nat.le_refl _)⟩
end
end Mine
-- part Loop
namespace Mine

/-- the rest of a ledger that a fact tells -/
abbrev restOf {h₀ h : Heap} {L : Addr} {a : Addr × Obj} {l : List (Addr × Obj)} (_ : News h₀ L h (a :: l)) : List (Addr × Obj) := l

section
variable {prog : Program} {w : World} {A : Around} {E : Value → Shared → Prop} {s : Shared} {env : Env} {h₀ : Heap} {x : Str} {body : List Stmt} {Q : Flow → Shared → Prop}

/-- what the end of a turn must show: the next state -/
def TurnGo {σ : Type} (h₀ : Heap) (L I : Addr) (x : Str) (m₀ : Str → Option Value) (Led : σ → List (Addr × Obj)) (ps : σ → List (Str × Value)) (stored : List Str) (Inv : σ → Prop) (own : List (Addr × Obj)) (s₁ s₂ : Shared) : Prop :=
  ∃ h' tk m' c, s₂ = { s₁ with heap := h', toks := tk } ∧ Fr h₀ L h' m' ∧ News h₀ L h' (Led c ++ own) ∧ (∀ p ∈ Led c, p.1 ≠ I) ∧ (∀ p ∈ ps c, m' p.1 = some p.2) ∧
    (∀ z, z ≠ x → (∀ p ∈ ps c, z ≠ p.1) → stored.contains z = false → m' z = m₀ z) ∧ Inv c
def TurnEnd0 {σ : Type} (h₀ : Heap) (L I : Addr) (x : Str) (m₀ : Str → Option Value) (Led : σ → List (Addr × Obj)) (ps : σ → List (Str × Value)) (stored : List Str) (Inv : σ → Prop) (own : List (Addr × Obj)) (s₁ : Shared) (Q : Flow → Shared → Prop) (f : Flow) (s₂ : Shared) : Prop :=
  match f with
  | .ret v => Q (.ret v) s₂
  | .brk => Q .next s₂
  | _ => TurnGo h₀ L I x m₀ Led ps stored Inv own s₁ s₂
/-- the same, as a structure: the walker leaves it alone -/
structure TurnEnd {σ : Type} (h₀ : Heap) (L I : Addr) (x : Str) (m₀ : Str → Option Value) (Led : σ → List (Addr × Obj)) (ps : σ → List (Str × Value)) (stored : List Str) (Inv : σ → Prop) (own : List (Addr × Obj)) (s₁ : Shared) (Q : Flow → Shared → Prop) (f : Flow) (s₂ : Shared) : Prop where
  out : TurnEnd0 h₀ L I x m₀ Led ps stored Inv own s₁ Q f s₂

theorem loop_st {σ : Type} {I : Addr} {fp : List Addr} {n : Nat} {P : Nat → Value → Prop} {St : Nat → Heap → Prop} {m₀ : Str → Option Value} (Led : σ → List (Addr × Obj)) (ps : σ → List (Str × Value)) (stored : List Str) (Inv : Nat → σ → Prop) (c₀ : σ)
    (W : Walks prog w A I fp [I] n P St) (hL : env.locals ∉ fp) (hI : h₀.get? I = none) (hlive : ∀ i h, St i h → ∃ o, h.get? I = some o) (hst : St 0 s.heap) (F : Fr h₀ env.locals s.heap m₀) (N : News h₀ env.locals s.heap (Led c₀))
    (hn : ∀ p ∈ Led c₀, p.1 ≠ I) (hk : ∀ p ∈ ps c₀, m₀ p.1 = some p.2) (hi : Inv 0 c₀)
    (turn : ∀ i v (c : σ) (u : Str → Option Value) h tk own oI, i < n → P i v → Inv i c → (∀ p ∈ Led c, p.1 ≠ I) → (I, oI) ∈ own → (∀ p ∈ own, p.1 ∈ fp) →
      Fr h₀ env.locals h (fun y => if y = x then some v else kstB (fun z => if stored.contains z then u z else m₀ z) (ps c) y) → News h₀ env.locals h (Led c ++ own) →
      wpAny (model prog w) A (execs body env) (TurnEnd h₀ env.locals I x m₀ Led ps stored (Inv (i + 1)) own { s with heap := h, toks := tk } Q) E { s with heap := h, toks := tk })
    (done : ∀ (c : σ) (u : Str → Option Value) h tk, Inv n c → Fr h₀ env.locals h (fun y => if y = x then u y else kstB (fun z => if stored.contains z then u z else m₀ z) (ps c) y) → News h₀ env.locals h (Led c) → Q .next { s with heap := h, toks := tk }) :
    LoopAtV prog w A h₀ env x body Q E (.ref I) s := by
  let J : Nat → (Str → Option Value) → List (Addr × Obj) → Prop := fun i m news => ∃ c, news = Led c ∧ (∀ p ∈ ps c, m p.1 = some p.2) ∧ (∀ z, z ≠ x → (∀ p ∈ ps c, z ≠ p.1) → stored.contains z = false → m z = m₀ z) ∧ Inv i c
  refine ⟨I, fp, [I], n, P, St, m₀, Led c₀, J, rfl, W, hL, ?_, ?_, hst, F, N, ⟨c₀, rfl, hk, fun _ _ _ _ => rfl, hi⟩, ?_, ?_⟩
  · intro b hb; rw [List.mem_singleton.mp hb]; exact hI
  · intro p hp hm; exact hn p hp (List.mem_singleton.mp hm)
  · rintro i v m₁ news₁ s₁ own ⟨hh', tk', rfl⟩ hin hP ⟨c, rfl, h1, h2, hj⟩ hoff hown _ hall hst₁ F₁ N₁
    obtain ⟨oI, hoI⟩ := hlive _ _ hst₁
    have hoff' : ∀ p ∈ Led c, p.1 ≠ I := fun p hp e => hoff p hp (List.mem_singleton.mpr e)
    have hmem : (I, oI) ∈ own := hall I (W.sub _ (List.mem_singleton.mpr rfl)) hI oI hoI
    refine wpAny_mono (turn i v c m₁ hh' tk' own oI hin hP hj hoff' hmem hown (kst_fr h1 h2 F₁) (fun p hp => N₁ p ((List.mem_append.mp hp).elim (fun h => List.mem_append.mpr (.inr h)) fun h => List.mem_append.mpr (.inl h)))) (fun f s₂ z => ?_) fun _ _ e => e
    have fin : TurnGo h₀ env.locals I x m₀ Led ps stored (Inv (i + 1)) own { s with heap := hh', toks := tk' } s₂ → LoopStepU h₀ env.locals [I] own (J (i + 1)) { s with heap := hh', toks := tk' } .next s₂ := by
      rintro ⟨h', tk, m', c', e, F', N', ho, g1, g2, g3⟩
      exact ⟨rfl, h', tk, m', Led c', e, F', fun p hp => N' p ((List.mem_append.mp hp).elim (fun h => List.mem_append.mpr (.inr h)) fun h => List.mem_append.mpr (.inl h)), fun p hp hm => ho p hp (List.mem_singleton.mp hm), c', rfl, g1, g2, g3⟩
    replace z := z.out
    cases f with
    | ret v => exact .ret z
    | brk => exact .brk z
    | next => exact .next (fin z)
    | cont => exact .cont (fin z)
  · rintro h' tk m' news' F' N' _ ⟨c, rfl, h1, h2, hj⟩
    exact done c m' h' tk hj (kst_frOut h1 h2 F') N'

theorem iter_text {σ : Type} {xt : Str} {tx : Tok} {m₀ : Str → Option Value} (Led : σ → List (Addr × Obj)) (ps : σ → List (Str × Value)) (stored : List Str) (Inv : Nat → σ → Prop) (c₀ : σ)
    (hh : A.handled = none) (F : Fr h₀ env.locals s.heap m₀) (N : News h₀ env.locals s.heap (Led c₀)) (hk : ∀ p ∈ ps c₀, m₀ p.1 = some p.2) (hi : Inv 0 c₀)
    (turn : ∀ i (n : Nat) t (c : σ) (u : Str → Option Value) h tk own I oI, xt.cps[i]? = some n → Inv i c → (∀ p ∈ Led c, p.1 ≠ I) → (I, oI) ∈ own → (∀ p ∈ own, p.1 = I) →
      Fr h₀ env.locals h (fun y => if y = x then some (.str ⟨#[n]⟩ t) else kstB (fun z => if stored.contains z then u z else m₀ z) (ps c) y) → News h₀ env.locals h (Led c ++ own) →
      wpAny (model prog w) A (execs body env) (TurnEnd h₀ env.locals I x m₀ Led ps stored (Inv (i + 1)) own { s with heap := h, toks := tk } Q) E { s with heap := h, toks := tk })
    (done : ∀ (c : σ) (u : Str → Option Value) h tk, Inv xt.length c → Fr h₀ env.locals h (fun y => if y = x then u y else kstB (fun z => if stored.contains z then u z else m₀ z) (ps c) y) → News h₀ env.locals h (Led c) → Q .next { s with heap := h, toks := tk }) :
    wpAny (model prog w) A (pyIter (.str xt tx)) (fun it s₂ => LoopAtV prog w A h₀ env x body Q E it s₂) E s := by
  have go : ∀ (o : Obj) (St : Nat → Heap → Prop), Walks prog w A s.heap.objs.size [s.heap.objs.size] [s.heap.objs.size] xt.cps.size (SignAt xt) St → (∀ i h, St i h → ∃ o, h.get? s.heap.objs.size = some o) → St 0 (s.heap.push o) →
      LoopAtV prog w A h₀ env x body Q E (.ref s.heap.objs.size) { s with heap := s.heap.push o } := by
    intro o St W hl hst
    refine loop_st (s := { s with heap := s.heap.push o }) Led ps stored Inv c₀ W ?_ (next_is_new F) hl hst (F.push _) (fun p hp => ⟨Heap.get?_push_of_some _ (N p hp).1, (N p hp).2⟩) ?_ hk hi ?_ ?_
    · intro hm; exact absurd F.ns.lt ((List.mem_singleton.mp hm) ▸ Nat.lt_irrefl _)
    · intro p hp; exact Nat.ne_of_lt (Heap.lt_size (N p hp).1)
    · rintro i v c u h tk own oI hi ⟨n, t, hn, rfl⟩ hj ho hm hf F₁ N₁
      exact turn i n t c u h tk own _ oI hn hj ho hm (fun p hp => List.mem_singleton.mp (hf p hp)) F₁ N₁
    · intro c u h tk hj F₁ N₁
      exact done c u h tk hj F₁ N₁
  cases ha : xt.cps.all (· < 128)
  · exact wpAny_pyIter_wide ha (go _ _ (Walks.strWide hh _ xt tx) (fun i h ⟨o, ho, _⟩ => ⟨o, ho⟩) ⟨_, Heap.get?_push_size _ rfl, rfl, rfl⟩)
  · exact wpAny_pyIter_ascii ha (go _ _ (Walks.strAscii hh _ xt tx) (fun i h ⟨o, ho, _⟩ => ⟨o, ho⟩) ⟨_, Heap.get?_push_size _ rfl, rfl, rfl⟩)

theorem iter_list {σ : Type} {l : Addr} {vs : List Value} {m₀ : Str → Option Value} (Led : σ → List (Addr × Obj)) (ps : σ → List (Str × Value)) (stored : List Str) (Inv : Nat → σ → Prop) (c₀ : σ)
    (hh : A.handled = none) (hl : s.heap.IsList l vs.toArray) (hlL : l ≠ env.locals) (F : Fr h₀ env.locals s.heap m₀) (N : News h₀ env.locals s.heap (Led c₀)) (hk : ∀ p ∈ ps c₀, m₀ p.1 = some p.2) (hi : Inv 0 c₀)
    (turn : ∀ i v (c : σ) (u : Str → Option Value) h tk own I oI, vs[i]? = some v → Inv i c → (∀ p ∈ Led c, p.1 ≠ I) → (I, oI) ∈ own → (∀ p ∈ own, p.1 = I ∨ p.1 = l) →
      Fr h₀ env.locals h (fun y => if y = x then some v else kstB (fun z => if stored.contains z then u z else m₀ z) (ps c) y) → News h₀ env.locals h (Led c ++ own) →
      wpAny (model prog w) A (execs body env) (TurnEnd h₀ env.locals I x m₀ Led ps stored (Inv (i + 1)) own { s with heap := h, toks := tk } Q) E { s with heap := h, toks := tk })
    (done : ∀ (c : σ) (u : Str → Option Value) h tk, Inv vs.length c → Fr h₀ env.locals h (fun y => if y = x then u y else kstB (fun z => if stored.contains z then u z else m₀ z) (ps c) y) → News h₀ env.locals h (Led c) → Q .next { s with heap := h, toks := tk }) :
    wpAny (model prog w) A (pyIter (.ref l)) (fun it s₂ => LoopAtV prog w A h₀ env x body Q E it s₂) E s := by
  refine wpAny_pyIter_list hl ?_
  obtain ⟨ol, hol, _⟩ := id hl
  have hne : l ≠ s.heap.objs.size := Nat.ne_of_lt (Heap.lt_size hol)
  have W := Walks.list (prog := prog) (w := w) hh s.heap.objs.size l hne vs.toArray
  rw [List.size_toArray] at W
  refine loop_st (s := { s with heap := s.heap.push _ }) Led ps stored Inv c₀ W ?_ (next_is_new F) (fun i h ⟨⟨o, ho, _⟩, _⟩ => ⟨o, ho⟩) ⟨⟨_, Heap.get?_push_size _ rfl, rfl, rfl⟩, hl.at fun o e => Heap.get?_push_of_some _ e⟩ (F.push _) (fun p hp => ⟨Heap.get?_push_of_some _ (N p hp).1, (N p hp).2⟩) ?_ hk hi ?_ ?_
  · intro hm
    rcases List.mem_cons.mp hm with e | hm
    · exact absurd F.ns.lt (e ▸ Nat.lt_irrefl _)
    · exact hlL (List.mem_singleton.mp hm).symm
  · intro p hp; exact Nat.ne_of_lt (Heap.lt_size (N p hp).1)
  · intro i v c u h tk own oI hi hv hj ho hm hf F₁ N₁
    exact turn i v c u h tk own _ oI (by simpa using hv) hj ho hm (fun p hp => by simpa using hf p hp) F₁ N₁
  · intro c u h tk hj F₁ N₁
    exact done c u h tk hj F₁ N₁

theorem iter_range {σ : Type} {r : Addr} {a₀ b₀ : Int} {t₀ u₀ v₀ : Tok} {n : Nat} {m₀ : Str → Option Value} (Led : σ → List (Addr × Obj)) (ps : σ → List (Str × Value)) (stored : List Str) (Inv : Nat → σ → Prop) (c₀ : σ)
    (hh : A.handled = none) (hr : IsRange s.heap r a₀ b₀ 1 t₀ u₀ v₀) (hsmall : Builtin.Range.small a₀ b₀ 1 = true) (hn : Builtin.Range.rangeSize a₀ b₀ 1 = (n : Int)) (F : Fr h₀ env.locals s.heap m₀) (N : News h₀ env.locals s.heap (Led c₀)) (hk : ∀ p ∈ ps c₀, m₀ p.1 = some p.2) (hi : Inv 0 c₀)
    (turn : ∀ (i : Nat) t (c : σ) (u : Str → Option Value) h tk own I oI, i < n → Inv i c → (∀ p ∈ Led c, p.1 ≠ I) → (I, oI) ∈ own → (∀ p ∈ own, p.1 = I) →
      Fr h₀ env.locals h (fun y => if y = x then some (.int (a₀ + (i : Int)) t) else kstB (fun z => if stored.contains z then u z else m₀ z) (ps c) y) → News h₀ env.locals h (Led c ++ own) →
      wpAny (model prog w) A (execs body env) (TurnEnd h₀ env.locals I x m₀ Led ps stored (Inv (i + 1)) own { s with heap := h, toks := tk } Q) E { s with heap := h, toks := tk })
    (done : ∀ (c : σ) (u : Str → Option Value) h tk, Inv n c → Fr h₀ env.locals h (fun y => if y = x then u y else kstB (fun z => if stored.contains z then u z else m₀ z) (ps c) y) → News h₀ env.locals h (Led c) → Q .next { s with heap := h, toks := tk }) :
    wpAny (model prog w) A (pyIter (.ref r)) (fun it s₂ => LoopAtV prog w A h₀ env x body Q E it s₂) E s := by
  refine wpAny_pyIter_range hr hsmall ?_
  have W := Walks.range (prog := prog) (w := w) hh s.heap.objs.size a₀ 1 n
  refine loop_st (s := { s with heap := s.heap.push _ }) Led ps stored Inv c₀ W ?_ (next_is_new F) (fun i h ho => ⟨_, ho⟩) (by show IsRangeIter _ _ _ _ _; rw [hn]; simpa using Heap.get?_push_size _ rfl) (F.push _) (fun p hp => ⟨Heap.get?_push_of_some _ (N p hp).1, (N p hp).2⟩) ?_ hk hi ?_ ?_
  · intro hm; exact absurd F.ns.lt ((List.mem_singleton.mp hm) ▸ Nat.lt_irrefl _)
  · intro p hp; exact Nat.ne_of_lt (Heap.lt_size (N p hp).1)
  · rintro i v c u h tk own oI hi ⟨t, rfl⟩ hj ho hm hf F₁ N₁
    have e1 : a₀ + (i : Int) * 1 = a₀ + (i : Int) := by omega
    rw [e1] at F₁
    exact turn i t c u h tk own _ oI hi hj ho hm (fun p hp => List.mem_singleton.mp (hf p hp)) F₁ N₁
  · intro c u h tk hj F₁ N₁
    exact done c u h tk hj F₁ N₁

end
end Mine
-- part Rules
namespace Mine
theorem TurnEnd.go {σ : Type} {h₀ : Heap} {L I : Addr} {x : Str} {m₀ : Str → Option Value} {Led : σ → List (Addr × Obj)} {ps : σ → List (Str × Value)} {stored : List Str} {Inv : σ → Prop} {own : List (Addr × Obj)} {s₁ : Shared} {Q : Flow → Shared → Prop} {h' : Heap} {tk : Nat} {m' : Str → Option Value} (c : σ)
    (F : Fr h₀ L h' m') (N : News h₀ L h' (Led c ++ own)) (ho : ∀ p ∈ Led c, p.1 ≠ I) (hk : ∀ p ∈ ps c, m' p.1 = some p.2) (hr : ∀ z, z ≠ x → (∀ p ∈ ps c, z ≠ p.1) → stored.contains z = false → m' z = m₀ z) (hi : Inv c) :
    TurnEnd h₀ L I x m₀ Led ps stored Inv own s₁ Q .next { s₁ with heap := h', toks := tk } := ⟨⟨h', tk, m', c, rfl, F, N, ho, hk, hr, hi⟩⟩
theorem TurnEnd.goc {σ : Type} {h₀ : Heap} {L I : Addr} {x : Str} {m₀ : Str → Option Value} {Led : σ → List (Addr × Obj)} {ps : σ → List (Str × Value)} {stored : List Str} {Inv : σ → Prop} {own : List (Addr × Obj)} {s₁ : Shared} {Q : Flow → Shared → Prop} {h' : Heap} {tk : Nat} {m' : Str → Option Value} (c : σ)
    (F : Fr h₀ L h' m') (N : News h₀ L h' (Led c ++ own)) (ho : ∀ p ∈ Led c, p.1 ≠ I) (hk : ∀ p ∈ ps c, m' p.1 = some p.2) (hr : ∀ z, z ≠ x → (∀ p ∈ ps c, z ≠ p.1) → stored.contains z = false → m' z = m₀ z) (hi : Inv c) :
    TurnEnd h₀ L I x m₀ Led ps stored Inv own s₁ Q .cont { s₁ with heap := h', toks := tk } := ⟨⟨h', tk, m', c, rfl, F, N, ho, hk, hr, hi⟩⟩
structure WSt where
  cnt : List Int
  b : Int
  n : Int
  nt : Int
structure WsKeys where
  k1 : Tok
  k2 : Tok
  k3 : Tok
  k4 : Tok
  k5 : Tok
  t : Tok
  tn : Tok
  tnt : Tok
  tb : Tok
abbrev tupObj (vs : Array Value) : Obj := { cls := .type "tuple", data := .seq vs }
abbrev wsEs (P : Params) (raw : Str) (st : WSt) (tn : Addr) (k : WsKeys) : List DictEntry :=
  [{ hash := PyData.keyHash P (Str.ofString "raw"), key := .str (Str.ofString "raw") k.k1, val := .str raw k.t }, { hash := PyData.keyHash P (Str.ofString "n"), key := .str (Str.ofString "n") k.k2, val := .int st.n k.tn },
   { hash := PyData.keyHash P (Str.ofString "nt"), key := .str (Str.ofString "nt") k.k3, val := .int st.nt k.tnt }, { hash := PyData.keyHash P (Str.ofString "norm"), key := .str (Str.ofString "norm") k.k4, val := .ref tn },
   { hash := PyData.keyHash P (Str.ofString "is_simple"), key := .str (Str.ofString "is_simple") k.k5, val := .bool (decide ((st.cnt.length : Int) ≤ 1)) }]
/-- what Whitespace(..) makes -/
abbrev wsLed (P : Params) (C x dx tn tc : Addr) (vs : List Value) (raw : Str) (st : WSt) (k : WsKeys) : List (Addr × Obj) :=
  [(tn, tupObj #[.ref tc, .int st.b k.tb]), (tc, tupObj vs.toArray), (x, instObj C dx), (dx, dictOf (wsEs P raw st tn k) 5)]
def WsMade (P : Params) (C : Addr) (raw : Str) (st : WSt) (h : Heap) (v : Value) (h' : Heap) : Prop :=
  ∃ x dx tn tc vs k, v = .ref x ∧ Made h h' (wsLed P C x dx tn tc vs raw st k) ∧ IntsAre vs st.cnt ∧ @LT.lt Nat _ tc tn ∧ @LT.lt Nat _ x tc ∧ @LT.lt Nat _ dx x
theorem WsMade.base {P : Params} {C : Addr} {raw : Str} {st : WSt} {h0 h h' : Heap} {v : Value} (Y : WsMade P C raw st h v h') (hz : h0.objs.size ≤ h.objs.size) : WsMade P C raw st h0 v h' := by
  obtain ⟨x, dx, tn, tc, vs, k, e, M, r⟩ := Y
  exact ⟨x, dx, tn, tc, vs, k, e, fun p hp => ⟨(M p hp).1, Nat.le_trans hz (M p hp).2⟩, r⟩
theorem made_of {h h' h₀ : Heap} {L : Addr} {l l' : List (Addr × Obj)} (N : News h₀ L h' l') (hs : l.Sublist l') (hz : ∀ p ∈ l, h.objs.size ≤ p.1) : Made h h' l := fun p hp => ⟨(N p (hs.subset hp)).1, hz p hp⟩
section
variable {h₀ h : Heap} {L : Addr} {l l' : List (Addr × Obj)}
theorem news_sub (N : News h₀ L h l) (hs : l'.Sublist l) : News h₀ L h l' := fun p hp => N p (hs.subset hp)
theorem ne_of_all {D : Addr} {l l' : List (Addr × Obj)} (h : ∀ p ∈ l, p.1 < D) (hs : ∀ p ∈ l', p ∈ l) : ∀ p ∈ l', p.1 ≠ D := fun p hp => Nat.ne_of_lt (h p (hs p hp))
/-- the list that heads a ledger -/
abbrev lstOf {D : Addr} {vs : List Value} {n : Nat} (_ : News h₀ L h ((D, W.listOf vs.toArray n) :: l)) : Addr × List Value × Nat := (D, vs, n)
end
section
variable {prog : Program} {w : World} {A : Around} {E : Value → Shared → Prop} {s : Shared} {h₀ : Heap} {L D D2 : Addr} {m : Str → Option Value} {news : List (Addr × Obj)} {vs ws : List Value} {ns ms : List Int} {n n2 : Nat} {k : Int} {u : Tok} {Q : Value → Shared → Prop}
theorem len_I (N : News h₀ L s.heap news) (hm : (D, W.listOf vs.toArray n) ∈ news) (hi : IntsAre vs ns) (hz : ns.length ≤ 100000)
    (h : ∀ t tk, Q (.int (ns.length : Int) t) { s with toks := tk }) : wpAny (model prog w) A (call (.builtin "len") [.ref D]) Q E s := by
  refine len_list (News.isList N hm) (by rw [List.size_toArray, hi.length]; omega) ?_
  rw [List.size_toArray, hi.length]; exact h _ _
theorem add_I (F : Fr h₀ L s.heap m) (N : News h₀ L s.heap news) (hm : (D, W.listOf vs.toArray n) ∈ news) (hm2 : (D2, W.listOf ws.toArray n2) ∈ news) (hi : IntsAre vs ns) (hj : IntsAre ws ms) (hz : ns.length + ms.length ≤ 100000)
    (h : ∀ D' h', Fr h₀ L h' m → News h₀ L h' ((D', W.listOf (vs ++ ws).toArray 0) :: news) → IntsAre (vs ++ ws) (ns ++ ms) → (∀ p ∈ news, p.1 < D') → Q (.ref D') { s with heap := h' }) :
    wpAny (model prog w) A (binaryOp .Add (.ref D) (.ref D2)) Q E s :=
  add_lists_ints F N (News.isList N hm) (News.isList N hm2) hi hj (fun h' F' N' hi' => h _ h' F' N' hi' fun p hp => Heap.lt_size (N p hp).1) (by rw [sizeLine_eq]; omega)
theorem ints_rep (t : Tok) (x : Int) : ∀ k : Nat, IntsAre (List.replicate k (.int x t)) (List.replicate k x)
  | 0 => .nil
  | k + 1 => .cons _ _ (ints_rep t x k)
theorem flat_rep {α : Type} (v : α) : ∀ k : Nat, (List.replicate k [v]).flatten = List.replicate k v
  | 0 => rfl
  | k + 1 => by rw [List.replicate_succ, List.flatten_cons, flat_rep v k]; rfl
theorem mul_I {x : Int} {t : Tok} (F : Fr h₀ L s.heap m) (N : News h₀ L s.heap news) (hm : (D, W.listOf #[.int x t] n) ∈ news) (h0 : 0 ≤ k) (hz : k ≤ 250)
    (h : ∀ D' h' ws, Fr h₀ L h' m → News h₀ L h' ((D', W.listOf ws.toArray 0) :: news) → IntsAre ws (List.replicate k.toNat x) → (∀ p ∈ news, p.1 < D') → Q (.ref D') { s with heap := h' }) :
    wpAny (model prog w) A (binaryOp .Mult (.ref D) (.int k u)) Q E s :=
  KMa.mul (vs := [.int x t]) F N (News.isList (items := #[.int x t]) N hm) (by omega) (by omega) (by show 1 * k.toNat ≤ 256; omega) (flat_rep _ _) fun D' h' F' N' hl => h D' h' _ F' N' (ints_rep _ _ _) hl
theorem tuple_I (F : Fr h₀ L s.heap m) (N : News h₀ L s.heap news) (hm : (D, W.listOf vs.toArray n) ∈ news) (hi : IntsAre vs ns) (hz : ns.length ≤ 16384)
    (h : ∀ D' h', Fr h₀ L h' m → News h₀ L h' ((D', ({ cls := .type "tuple", data := .seq vs.toArray } : Obj)) :: news) → (∀ p ∈ news, p.1 < D') → Q (.ref D') { s with heap := h' }) : wpAny (model prog w) A (call (.type "tuple") [.ref D]) Q E s :=
  kde_tupleOf F N (News.isList N hm) (by rw [List.size_toArray, hi.length]; exact hz) rfl h
end
end Mine
namespace Mine
section
variable {prog : Program} {w : World} {A : Around} {E : Value → Shared → Prop} {s : Shared} {value slice : Expr} {x : Str} {t : Tok} {h₀ : Heap} {L : Addr} {m : Str → Option Value} {news : List (Addr × Obj)} {Q : Value → Shared → Prop} {uk : Tok}
end
end Mine
namespace Mine
section
variable {prog : Program} {w : World} {A : Around} {E : Value → Shared → Prop} {s : Shared} {h₀ : Heap} {L : Addr} {m : Str → Option Value} {news : List (Addr × Obj)} {x y z : Str} {t u v : Tok} {Q : Value → Shared → Prop}
end
end Mine
-- part Re
namespace Mine
open PySem.Builtin.Re

theorem slot_sub : Slot "re.Pattern" "sub" "re.Pattern.sub" :=
  .of (owner := "re.Pattern") (n := "sub") (by rw [typeLookup_type, builtinLookup_eq_fast]; kernel_rfl) (by decide +kernel) (by decide +kernel) (by decide +kernel)
    (by first | exact .inl (by decide +kernel) | exact .inr (by decide +kernel)) (by rw [isSubtype_type]; kernel_rfl)
theorem type_sub : typeOf (.builtin "re.Pattern.sub") = pure (.type "method_descriptor") := by show builtinType _ = _; rw [builtinType_eq_fast]; kernel_rfl
theorem entry_sub : entryFor table "re.Pattern.sub" = some Builtin.«re.Pattern.sub» := entryFor_of_tree (by kernel_rfl)
theorem entry_loop : entryFor table "re.Pattern.sub.loop" = some Builtin.«re.Pattern.sub.loop» := entryFor_of_tree (by kernel_rfl)
theorem plain_loop : plainId "re.Pattern.sub.loop" = true := by decide +kernel
theorem args_sub (a b c : Value) : argsOk "re.Pattern.sub" ⟨[a, b, c], []⟩ := by unfold argsOk; kernel_rfl
theorem attrs_pat : PlainAttrs "re.Pattern" :=
  ⟨⟨"object.__getattribute__", by rw [typeLookup_type, builtinLookup_eq_fast]; kernel_rfl, by decide +kernel⟩, by rw [typeLookup_type, builtinLookup_eq_fast]; kernel_rfl⟩
theorem str_nocall : typeLookup (.type "str") "__call__" = pure none := by rw [typeLookup_type, builtinLookup_eq_fast]; kernel_rfl
theorem named_sub (a b : Value) : reNamed "re.Pattern.sub" "sub" ["repl", "string", "count"] 2 [a, b] [] = pure [some a, some b, none] := by kernel_rfl

theorem runFor_stop {m : PySem.Sre.M} (h : m.outcome.isSome = true) : ∀ n, PySem.Sre.M.runFor n m = m
  | 0 => rfl
  | n + 1 => by unfold PySem.Sre.M.runFor; rw [if_pos h]
theorem runFor_add : ∀ (a b : Nat) (m : PySem.Sre.M), PySem.Sre.M.runFor (a + b) m = PySem.Sre.M.runFor b (PySem.Sre.M.runFor a m)
  | 0, b, m => by rw [Nat.zero_add]; rfl
  | a + 1, b, m => by
    rw [Nat.succ_add]
    by_cases h : m.outcome.isSome = true
    · rw [runFor_stop h, runFor_stop h, runFor_stop h]
    · show (if m.outcome.isSome = true then m else PySem.Sre.M.runFor (a + b) m.step) = PySem.Sre.M.runFor b (if m.outcome.isSome = true then m else PySem.Sre.M.runFor a m.step)
      rw [if_neg h, if_neg h]
      exact runFor_add a b _
section
variable {M : Model} {A : Around} {E : Value → Shared → Prop} {s : Shared}
theorem wpAny_drive {Q : PySem.Sre.M → Shared → Prop} : ∀ (k turns : Nat) (m : PySem.Sre.M), k < turns → (PySem.Sre.M.runFor (4 * k) m).outcome.isSome = true → Q (PySem.Sre.M.runFor (4 * k) m) s →
    wpAny M A (reDrive turns m) Q E s
  | k, 0, m, h, _, _ => absurd h (Nat.not_lt_zero _)
  | 0, t + 1, m, _, ho, hq => by
    have ho' : m.outcome.isSome = true := ho
    unfold reDrive
    have e : PySem.Sre.M.runFor reTurnSteps m = m := runFor_stop ho' _
    simp only [e]
    rw [if_pos ho']
    exact wpAny_pure hq
  | k + 1, t + 1, m, h, ho, hq => by
    have e : PySem.Sre.M.runFor (4 * (k + 1)) m = PySem.Sre.M.runFor (4 * k) (PySem.Sre.M.runFor 4 m) := by rw [← runFor_add]; congr 1; omega
    unfold reDrive
    show wpAny M A (if (PySem.Sre.M.runFor 4 m).outcome.isSome = true then pure (PySem.Sre.M.runFor 4 m) else do rule "sre.turn"; reDrive t (PySem.Sre.M.runFor 4 m)) Q E s
    by_cases h4 : (PySem.Sre.M.runFor 4 m).outcome.isSome = true
    · rw [if_pos h4]
      rw [e, runFor_stop h4] at hq
      exact wpAny_pure hq
    · rw [if_neg h4]
      rw [e] at ho hq
      exact wpAny_bind (wpAny_rule (wpAny_drive k t _ (Nat.lt_of_succ_lt_succ h) ho hq))
theorem wpAny_tags {Q : PUnit → Shared → Prop} (f : Nat → PUnit → Sem (ForInStep PUnit)) (hf : ∀ i (R : ForInStep PUnit → Shared → Prop), R (.yield ⟨⟩) s → wpAny M A (f i ⟨⟩) R E s) :
    ∀ (l : List Nat), Q ⟨⟩ s → wpAny M A (forIn l PUnit.unit f) Q E s
  | [], h => by rw [List.forIn_nil]; exact wpAny_pure h
  | i :: l, h => by
    rw [List.forIn_cons]
    exact wpAny_bind (hf i _ (wpAny_tags f hf l h))
theorem wpAny_runEnd {m m' : PySem.Sre.M} {yes : Bool} {Q : Option PySem.Sre.M → Shared → Prop} (e : PySem.Sre.M.runFor 4000 m = m') (ho : m'.outcome = some (if yes then .matched else .failed))
    (h : Q (if yes then some m' else none) s) : wpAny M A (reRunToEnd m) Q E s := by
  unfold reRunToEnd
  refine wpAny_bind (wpAny_drive 1000 (2 ^ 64) m (by decide) (by show (PySem.Sre.M.runFor 4000 m).outcome.isSome = true; rw [e, ho]; rfl) ?_)
  show wpAny M A _ Q E s
  refine wpAny_bind (wpAny_tags _ (fun i R hR => ?_) _ ?_)
  · show wpAny M A (if (PySem.Sre.M.runFor 4000 m).seen.has i = true then _ else _) R E s
    split
    · exact wpAny_bind (wpAny_rule (wpAny_pure hR))
    · exact wpAny_pure hR
  · show wpAny M A (match (PySem.Sre.M.runFor 4000 m).outcome with | some .matched => pure (some (PySem.Sre.M.runFor 4000 m)) | some .failed => pure none | some (.stuck why) => unsupported s!"_sre:{why}" | none => unsupported "internal:sre:no-outcome") Q E s
    rw [e, ho]
    cases yes
    · exact wpAny_pure h
    · exact wpAny_pure h
end

/-- one search: none where it sticks, some none where nothing is found, else where the find begins and ends -/
def srch (code text : Array Nat) (start : Nat) (must : Bool) : Option (Option (Nat × Nat)) :=
  match PySem.Sre.M.runFor 4000 (PySem.Sre.forSearch code text 0 start text.size must) with
  | m => match m.outcome with
    | some .matched => some (some (m.start, m.handed))
    | some .failed => some none
    | _ => none
/-- the pieces of what sub gives -/
def subs (code text : Array Nat) (repl : PySem.Str) : Nat → Nat → Bool → Option (List PySem.Str)
  | 0, _, _ => none
  | f + 1, start, must => match srch code text start must with
    | none => none
    | some none => some (if start < text.size then [⟨text.extract start text.size⟩] else [])
    | some (some (b, e)) => match subs code text repl f e (e == b) with
      | none => none
      | some l => some ((if start < b then [⟨text.extract start b⟩] else []) ++ repl :: l)
def subAll (code text : Array Nat) (repl : PySem.Str) : Option PySem.Str := (subs code text repl 100 0 false).map (PySem.Txt.join ⟨#[]⟩)

structure Pat (h : Heap) (P : Addr) (code : Array Nat) : Prop where
  pat : ∃ a0 a1 a3 a4 C t2 t6, h.get? P = some ⟨.type "re.Pattern", none, .fields #[a0, a1, .int 0 t2, a3, a4, .ref C, .int 0 t6], #[]⟩ ∧
    ∃ o items n, h.get? C = some o ∧ o.cls = .type "tuple" ∧ o.data = .seq items n ∧ (items.map reRawOf).map (·.toNat) = code
theorem Pat.keeps {h h' : Heap} {P : Addr} {code : Array Nat} (X : Pat h P code) (l : Addr) (hl : ∀ items, h.IsList l items → True) (hn : ∃ items, h.IsList l items) (k : ∀ b o, b ≠ l → h.get? b = some o → h'.get? b = some o) : Pat h' P code := by
  obtain ⟨a0, a1, a3, a4, C, t2, t6, hP, o, items, n, hC, hc, hd, he⟩ := X.pat
  obtain ⟨is, ol, hol, hcl, _⟩ := hn
  refine ⟨a0, a1, a3, a4, C, t2, t6, k _ _ ?_ hP, o, items, n, k _ _ ?_ hC, hc, hd, he⟩
  · rintro rfl; rw [hol] at hP; cases hP; exact absurd (show Value.type "re.Pattern" = Value.type "list" from hcl) (by decide)
  · rintro rfl; rw [hol] at hC; cases hC; rw [hc] at hcl; exact absurd hcl (by decide)

section
variable {prog : Program} {w : World} {A : Around} {E : Value → Shared → Prop} {s : Shared}
theorem wpAny_target {P : Addr} {code : Array Nat} {x : PySem.Str} {t : Tok} {Q : ReTarget → Shared → Prop} (X : Pat s.heap P code)
    (h : Q { pattern := .ref P, string := .str x t, code, text := x.cps, kind := 0, groups := 0, pos := 0, lim := x.cps.size } s) :
    wpAny (model prog w) A (reWholeTarget (.ref P) (.str x t)) Q E s := by
  obtain ⟨a0, a1, a3, a4, C, t2, t6, hP, o, items, n, hC, hc, hd, he⟩ := X.pat
  unfold reWholeTarget
  refine wpAny_bind (wpAny_fieldsOf hP rfl ?_)
  refine wpAny_bind (wpAny_bind (wpAny_pure (wpAny_pure ?_)))
  show wpAny (model prog w) A (do
    reNoCollectionInside (.str x t) 0
    pure { pattern := .ref P, string := .str x t, code := (← reRawItems (.ref C)).map (·.toNat), text := x.cps, kind := 0, groups := 0, pos := 0, lim := x.cps.size }) Q E s
  refine wpAny_bind (wpAny_pure ?_)
  refine wpAny_bind (wpAny_bind (wpAny_seqItems hC hd (wpAny_pure ?_)))
  refine wpAny_pure ?_
  show Q { pattern := .ref P, string := .str x t, code := ((items.map reRawOf).map (·.toNat)), text := x.cps, kind := 0, groups := 0, pos := 0, lim := x.cps.size } s
  rw [he]; exact h

theorem wpAny_next {T : ReTarget} {start : Nat} {must : Bool} {r : Option (Nat × Nat)} {Q : Option PySem.Sre.M → Shared → Prop} (hg : T.groups = 0) (hl : T.lim = T.text.size) (e : srch T.code T.text start must = some r)
    (h : ∀ m : Option PySem.Sre.M, m.map (fun m => (m.start, m.handed)) = r → Q m s) : wpAny (model prog w) A (reNextFound T start must) Q E s := by
  unfold reNextFound
  rw [hg, hl]
  unfold srch at e
  dsimp only at e
  cases ho : (PySem.Sre.M.runFor 4000 (PySem.Sre.forSearch T.code T.text 0 start T.text.size must)).outcome with
  | none => rw [ho] at e; cases e
  | some v =>
    rw [ho] at e
    cases v with
    | matched =>
      cases e
      exact wpAny_runEnd (yes := true) rfl ho (h _ rfl)
    | failed =>
      cases e
      exact wpAny_runEnd (yes := false) rfl ho (h _ rfl)
    | stuck w => cases e

theorem push_list {h : Heap} {l : Addr} {vs : List Value} {v : Value} (hl : h.IsList l vs.toArray) :
    (h.update l (Obj.mapSeq (·.push v))).IsList l (vs ++ [v]).toArray ∧ ∀ b o, b ≠ l → h.get? b = some o → (h.update l (Obj.mapSeq (·.push v))).get? b = some o := by
  obtain ⟨⟨c, d, dt, sl⟩, ho, hc, n, hd⟩ := hl
  simp only at hc hd
  subst hc hd
  refine ⟨⟨_, Heap.get?_update_self (Obj.mapSeq (·.push v)) ho rfl, rfl, (if (vs.toArray.push v).size == vs.toArray.size then n else n + 1), ?_⟩, fun b o hb e => (Heap.get?_update_ne _ _ _ _ hb).trans e⟩
  show (Data.seq (vs.toArray.push v) (if (vs.toArray.push v).size == vs.toArray.size then n else n + 1)) = Data.seq (vs ++ [v]).toArray (if (vs.toArray.push v).size == vs.toArray.size then n else n + 1)
  rw [← List.push_toArray]
theorem strs_snoc' {us : List Value} {ws : List PySem.Str} {x : PySem.Str} {t : Tok} (h : StrsAre us ws) : StrsAre (us ++ [.str x t]) (ws ++ [x]) := h.append' (.cons _ _ .nil)

theorem wpAny_push {l : Addr} {vs : List Value} {v : Value} {Q : PUnit → Shared → Prop} (hl : s.heap.IsList l vs.toArray) (hz : vs.length < 100000)
    (h : Q ⟨⟩ { s with heap := s.heap.update l (Obj.mapSeq (·.push v)) }) : wpAny (model prog w) A (updateSeq l (·.push v)) Q E s := by
  obtain ⟨o, ho, hc, n, hd⟩ := hl
  exact wpAny_updateSeq ho hd h (by rw [List.size_toArray, sizeLine_eq]; omega) (by rw [Array.size_push, List.size_toArray, sizeLine_eq]; omega)

theorem sub_loop {code : Array Nat} {P Lp : Addr} {x repl : PySem.Str} {t tr : Tok} (hx : x.length ≤ 10000) :
    ∀ (f : Nat) (n : Int) (start : Nat) (must : Bool) (out : List PySem.Str) (vs : List Value) (ps : List PySem.Str) (s : Shared) (R : Result → Shared → Prop),
    subs code x.cps repl f start must = some out → Pat s.heap P code → s.heap.IsList Lp vs.toArray → StrsAre vs ps → (ps ++ out).length ≤ 50000 → ((ps ++ out).map (·.length)).sum ≤ 10000000 →
    (∀ h' tk t', (∀ b o, b ≠ Lp → s.heap.get? b = some o → h'.get? b = some o) → R (.ok (.ret (.str (PySem.Txt.join ⟨#[]⟩ (ps ++ out)) t'))) { s with heap := h', toks := tk }) →
    codeAny (model prog w) A (.builtin "re.Pattern.sub.loop" ⟨[.ref P, .str x t, .str repl tr, rawInt 0, rawInt 0, rawInt n, rawInt start, rawInt start, .bool must, .ref Lp, .bool false], []⟩) R s := by
  intro f
  induction f with
  | zero => intro n start must out vs ps s R e; cases e
  | succ f ih =>
    intro n start must out vs ps s R e X hl hv hn hs hR
    have hlen : vs.length = ps.length := hv.length
    refine codeAny_builtin entry_loop ?_
    rw [Around.under_plainId plain_loop]
    unfold Builtin.«re.Pattern.sub.loop»
    unfold subs at e
    show wpAny (model prog w) A.in1 (do
      let t ← reWholeTarget (.ref P) (.str x t)
      reLiteralCannotBeTurned (.str repl tr)
      match ← (if (((0 : Int) != 0 && n ≥ 0) : Bool) = true then pure none else reNextFound t (start : Int).toNat must) with
      | some m => do
        if (start : Int).toNat < m.start then updateSeq Lp (·.push (← reSlice t.text t.kind (start : Int).toNat m.start))
        let item ← (pure (.str repl tr) : Sem Value)
        if item != .none then updateSeq Lp (·.push item)
        again (.builtin "re.Pattern.sub.loop" ⟨[.ref P, .str x _, .str repl tr, rawInt 0, rawInt 0, rawInt (n + 1), rawInt m.handed, rawInt m.handed, .bool (m.handed == m.start), .ref Lp, .bool false], []⟩)
      | none => do
        if (start : Int).toNat < t.lim then updateSeq Lp (·.push (← reSlice t.text t.kind (start : Int).toNat t.lim))
        let joiner ← reSlice t.text t.kind 0 0
        let text ← if ((← seqItems? (.ref Lp)).getD #[]).isEmpty then pure joiner
          else call (.builtin (if t.kind == 0 then "str.join" else "bytes.join")) [joiner, .ref Lp]
        if false then ret (← holding [text] do newTuple [text, ← mkInt n]) else ret text) _ _ s
    refine wpAny_bind (wpAny_target X ?_)
    refine wpAny_bind (wpAny_bind (wpAny_pure (wpAny_pure ?_)))
    rw [if_neg (show ¬ (((0 : Int) != 0 && decide (n ≥ 0)) = true) from by simp)]
    cases hr : srch code x.cps start must with
    | none => rw [hr] at e; cases e
    | some r =>
      refine wpAny_bind (wpAny_next (r := r) rfl rfl hr fun m hm => ?_)
      rw [hr] at e
      cases r with
      | none =>
        have hm' : m = none := by cases m with | none => rfl | some m => cases hm
        subst hm'
        dsimp only at e ⊢
        have e' := Option.some.inj e
        subst e'
        -- the end: what is left, then the joining
        have last : ∀ (vs' : List Value) (ps' : List PySem.Str) (h' : Heap) (tk : Nat), h'.IsList Lp vs'.toArray → StrsAre vs' ps' → ps' = ps ++ (if start < x.cps.size then [⟨x.cps.extract start x.cps.size⟩] else []) →
            (∀ b o, b ≠ Lp → s.heap.get? b = some o → h'.get? b = some o) →
            wpAny (model prog w) A.in1 (do
              let joiner ← reSlice x.cps 0 0 0
              let __do_lift ← seqItems? (Value.ref Lp)
              if (__do_lift.getD #[]).isEmpty = true then do
                let text ← pure joiner
                if false = true then do
                  let __do_lift ← holding [text] do
                      let __do_lift ← mkInt n
                      newTuple [text, __do_lift]
                  ret __do_lift
                else ret text
              else do
                let text ← call (Value.builtin "str.join") [joiner, Value.ref Lp]
                if false = true then do
                  let __do_lift ← holding [text] do
                      let __do_lift ← mkInt n
                      newTuple [text, __do_lift]
                  ret __do_lift
                else ret text) (fun fin s' => match fin with | PySem.Fin.done f => R (Except.ok f) s' | PySem.Fin.again c' => c'.quiet = true ∧ codeAny (model prog w) A c' R s') (fun e s' => R (Except.error e) s') { s with heap := h', toks := tk } := by
          intro vs' ps' h' tk hl' hv' he hk
          refine wpAny_bind (wpAny_mkStr ?_ (by show (x.cps.extract 0 0).size ≤ sizeLine; rw [Array.size_extract, sizeLine_eq]; omega))
          obtain ⟨o, ho, hc, k, hd⟩ := id hl'
          refine wpAny_bind (wpAny_seqItems ho hd ?_)
          dsimp only [Option.getD_some]
          have en : ({ cps := x.cps.extract 0 0 } : PySem.Str) = ⟨#[]⟩ := by simp
          rw [en]
          by_cases hz : vs'.toArray.isEmpty = true
          · rw [if_pos hz]
            have : vs' = [] := by simpa using hz
            subst this
            cases hv'
            refine wpAny_bind (wpAny_pure ?_)
            rw [if_neg Bool.false_ne_true]
            refine wpAny_pure ?_
            have z := hR h' (tk + 1) tk hk
            rw [← he] at z
            exact z
          · rw [if_neg hz]
            refine wpAny_bind (join_list hl' hv' (by rw [he]; show _ + _ * 0 ≤ _; omega) fun t' k => ?_)
            rw [if_neg Bool.false_ne_true]
            refine wpAny_pure ?_
            have z := hR h' k t' hk
            rw [← he] at z
            exact z
        by_cases hlt : start < x.cps.size
        · rw [if_pos (show ((start : Int).toNat) < x.cps.size from hlt)]
          refine wpAny_bind (wpAny_mkStr ?_ (by show (x.cps.extract start x.cps.size).size ≤ sizeLine; rw [Array.size_extract, sizeLine_eq]; have : x.cps.size ≤ 10000 := hx; omega))
          have hn' : ps.length < 50000 := by rw [if_pos hlt, List.length_append, List.length_singleton] at hn; omega
          refine wpAny_bind (wpAny_push (s := { s with toks := s.toks + 1 }) hl (by omega) ?_)
          obtain ⟨q1, q2⟩ := push_list (v := .str ⟨x.cps.extract start x.cps.size⟩ s.toks) hl
          exact last _ _ _ _ q1 (strs_snoc' hv) (by rw [if_pos hlt]) q2
        · rw [if_neg (show ¬ ((start : Int).toNat) < x.cps.size from hlt)]
          exact last vs ps s.heap s.toks hl hv (by rw [if_neg hlt, List.append_nil]) fun _ _ _ e => e
      | some be =>
        obtain ⟨b, e₁⟩ := be
        cases m with
        | none => cases hm
        | some m =>
          have hm1 : m.start = b := by have := Option.some.inj hm; exact congrArg Prod.fst this
          have hm2 : m.handed = e₁ := by have := Option.some.inj hm; exact congrArg Prod.snd this
          dsimp only at e ⊢
          rw [hm1, hm2]
          cases hs' : subs code x.cps repl f e₁ (e₁ == b) with
          | none => rw [hs'] at e; cases e
          | some l =>
            rw [hs'] at e
            have e' := Option.some.inj e
            subst e'
            have hk0 : (n : Int) = n := rfl
            have go : ∀ (vs' : List Value) (ps' : List PySem.Str) (h' : Heap) (tk : Nat), h'.IsList Lp vs'.toArray → StrsAre vs' ps' → ps' = ps ++ (if start < b then [⟨x.cps.extract start b⟩] else []) →
                (∀ b o, b ≠ Lp → s.heap.get? b = some o → h'.get? b = some o) →
                wpAny (model prog w) A.in1 (do
                  let item ← (pure (Value.str repl tr) : Sem Value)
                  if (item != Value.none) = true then do
                    let __r ← updateSeq Lp fun x => x.push item
                    again (Code.builtin "re.Pattern.sub.loop" { pos := [Value.ref P, Value.str x t, Value.str repl tr, rawInt 0, rawInt 0, rawInt (n + 1), rawInt ↑e₁, rawInt ↑e₁, Value.bool (e₁ == b), Value.ref Lp, Value.bool false] })
                  else again (Code.builtin "re.Pattern.sub.loop" { pos := [Value.ref P, Value.str x t, Value.str repl tr, rawInt 0, rawInt 0, rawInt (n + 1), rawInt ↑e₁, rawInt ↑e₁, Value.bool (e₁ == b), Value.ref Lp, Value.bool false] }))
                  (fun fin s' => match fin with | PySem.Fin.done f => R (Except.ok f) s' | PySem.Fin.again c' => c'.quiet = true ∧ codeAny (model prog w) A c' R s') (fun e s' => R (Except.error e) s') { s with heap := h', toks := tk } := by
              intro vs' ps' h' tk hl' hv' he hk
              have hl2 : vs'.length = ps'.length := hv'.length
              refine wpAny_bind (wpAny_pure ?_)
              rw [if_pos (show (Value.str repl tr != Value.none) = true from rfl)]
              have hcount : ps'.length < 50000 := by
                subst he
                simp only [List.length_append, List.length_cons] at hn ⊢; omega
              refine wpAny_bind (wpAny_push (s := { s with heap := h', toks := tk }) hl' (by omega) ?_)
              obtain ⟨q1, q2⟩ := push_list (v := .str repl tr) hl'
              have e3 : (ps' ++ [repl]) ++ l = ps ++ ((if start < b then [⟨x.cps.extract start b⟩] else []) ++ repl :: l) := by subst he; simp
              have X' : Pat h' P code := X.keeps Lp (fun _ _ => trivial) ⟨_, hl⟩ hk
              refine wpAny_pure ⟨plainId_quiet plain_loop _, ih (n + 1) e₁ (e₁ == b) l _ _ { s with heap := h'.update Lp (Obj.mapSeq (·.push (.str repl tr))), toks := tk } R hs' (X'.keeps Lp (fun _ _ => trivial) ⟨_, hl'⟩ q2) q1 (strs_snoc' hv') (by rw [e3]; exact hn) (by rw [e3]; exact hs) fun h'' tk'' t' hk'' => ?_⟩
              rw [e3]
              exact hR h'' tk'' t' fun b o hb e => hk'' b o hb (q2 b o hb (hk b o hb e))
            by_cases hlt : start < b
            · rw [if_pos (show ((start : Int).toNat) < b from hlt)]
              refine wpAny_bind (wpAny_mkStr ?_ (by show (x.cps.extract start b).size ≤ sizeLine; rw [Array.size_extract, sizeLine_eq]; have : x.cps.size ≤ 10000 := hx; omega))
              have hn' : ps.length < 50000 := by rw [if_pos hlt] at hn; simp only [List.length_append, List.length_cons, List.length_nil] at hn; omega
              refine wpAny_bind (wpAny_push (s := { s with toks := s.toks + 1 }) hl (by omega) ?_)
              obtain ⟨q1, q2⟩ := push_list (v := .str ⟨x.cps.extract start b⟩ s.toks) hl
              exact go _ _ _ _ q1 (strs_snoc' hv) (by rw [if_pos hlt]) q2
            · rw [if_neg (show ¬ ((start : Int).toNat) < b from hlt)]
              exact go vs ps s.heap s.toks hl hv (by rw [if_neg hlt, List.append_nil]) fun _ _ _ e => e

theorem sub_call {code : Array Nat} {P : Addr} {x repl : PySem.Str} {t tr : Tok} {out : List PySem.Str} {Q : Value → Shared → Prop} (hx : x.length ≤ 10000) (hr : repl.cps.contains 92 = false)
    (e : subs code x.cps repl 100 0 false = some out) (X : Pat s.heap P code) (hn : out.length ≤ 50000) (hs : (out.map (·.length)).sum ≤ 10000000)
    (h : ∀ h' tk t', s.heap.StaysIn h' → Q (.str (PySem.Txt.join ⟨#[]⟩ out) t') { s with heap := h', toks := tk }) :
    wpAny (model prog w) A (call (.builtin "re.Pattern.sub") [.ref P, .str repl tr, .str x t]) Q E s := by
  refine wpAny_call ?_
  have hT : s.TypeIs (.ref P) "re.Pattern" := by
    obtain ⟨a0, a1, a3, a4, C, t2, t6, hP, _⟩ := X.pat
    exact ⟨_, hP, rfl⟩
  refine codeAny_call_builtin slot_sub.plain entry_sub (slot_sub.check _ _ _ _ _ _ _ _ hT (args_sub _ _ _) ?_)
  unfold Builtin.«re.Pattern.sub» reSubstitute
  dsimp only
  rw [named_sub]
  refine wpAny_bind (wpAny_pure ?_)
  dsimp only
  refine wpAny_bind (wpAny_pure ?_)
  refine wpAny_bind (wpAny_specialOf (T := "str") rfl str_nocall ?_)
  dsimp only [Option.isSome]
  rw [if_neg Bool.false_ne_true]
  refine wpAny_bind (wpAny_pure ?_)
  dsimp only
  refine wpAny_bind (wpAny_pure ?_)
  rw [if_neg Bool.false_ne_true]
  rw [if_pos (show (!repl.cps.contains 92) = true by rw [hr]; rfl)]
  refine wpAny_bind (wpAny_pure ?_)
  dsimp only
  refine wpAny_bind (wpAny_holding (wpAny_target X ?_))
  rw [if_neg (show ¬ (((0 : Int) == 1) = true) by decide)]
  refine wpAny_bind (wpAny_newObj_type ?_ (by size_fits))
  refine wpAny_pure ⟨plainId_quiet plain_loop _, ?_⟩
  have st : s.heap.StaysIn (s.heap.push { cls := .type "list", dict := none, data := .seq #[] }) := fun b o e => Heap.get?_push_of_some _ e
  have hl : (s.heap.push { cls := .type "list", dict := none, data := .seq #[] }).IsList s.heap.objs.size ([] : List Value).toArray := ⟨_, Heap.get?_push_size _ rfl, rfl, 0, rfl⟩
  have X' : Pat (s.heap.push { cls := .type "list", dict := none, data := .seq #[] }) P code := by
    obtain ⟨a0, a1, a3, a4, C, t2, t6, hP, o, items, n, hC, r⟩ := X.pat
    exact ⟨a0, a1, a3, a4, C, t2, t6, st _ _ hP, o, items, n, st _ _ hC, r⟩
  refine sub_loop (s := { s with heap := s.heap.push { cls := .type "list", dict := none, data := .seq #[] } }) hx 100 0 0 false out [] [] _ e X' hl .nil (by simpa using hn) (by simpa using hs) fun h' tk t' hk => ?_
  exact h h' tk t' fun b o e => hk b o (Nat.ne_of_lt (Heap.lt_size e)) (st b o e)

theorem subs_length {code text : Array Nat} {repl : PySem.Str} : ∀ (f start : Nat) (must : Bool) (out : List PySem.Str), subs code text repl f start must = some out → out.length ≤ 2 * f
  | 0, _, _, _, e => by cases e
  | f + 1, start, must, out, e => by
    unfold subs at e
    split at e
    · cases e
    · cases e; split <;> simp <;> omega
    · split at e
      · cases e
      · rename_i l hl
        cases e
        have := subs_length f _ _ _ hl
        split <;> simp <;> omega
theorem subAll_out {code text : Array Nat} {repl y : PySem.Str} (e : subAll code text repl = some y) (hy : y.length ≤ 10000) :
    ∃ out, subs code text repl 100 0 false = some out ∧ PySem.Txt.join ⟨#[]⟩ out = y ∧ out.length ≤ 50000 ∧ (out.map (·.length)).sum ≤ 10000000 := by
  unfold subAll at e
  cases h : subs code text repl 100 0 false with
  | none => rw [h] at e; cases e
  | some out =>
    rw [h] at e
    have e' : PySem.Txt.join ⟨#[]⟩ out = y := Option.some.inj e
    have h1 := subs_length _ _ _ _ h
    have h2 := len_join_ge_sum ⟨#[]⟩ out
    rw [e'] at h2
    exact ⟨out, rfl, e', by omega, by omega⟩

theorem sub_all {code : Array Nat} {P : Addr} {x repl y : PySem.Str} {t tr : Tok} {Q : Value → Shared → Prop} (X : Pat s.heap P code) (hr : repl.cps.contains 92 = false)
    (e : subAll code x.cps repl = some y) (hx : x.length ≤ 10000) (hy : y.length ≤ 10000)
    (h : ∀ h' tk t', s.heap.StaysIn h' → Q (.str y t') { s with heap := h', toks := tk }) :
    wpAny (model prog w) A (call (.builtin "re.Pattern.sub") [.ref P, .str repl tr, .str x t]) Q E s := by
  obtain ⟨out, h1, h2, h3, h4⟩ := subAll_out e hy
  refine sub_call hx hr h1 X h3 h4 ?_
  rw [h2]; exact h
theorem pat_K {K : Frag} {P C : Addr} {a0 a1 a3 a4 : Value} {t2 t6 : Tok} {items : Array Value} {n : Nat} {d : Option Addr} {sl : Array (Option Value)} {code : Array Nat} {h : Heap} (X : K.In h)
    (h1 : K.lookup P = some ⟨.type "re.Pattern", none, .fields #[a0, a1, .int 0 t2, a3, a4, .ref C, .int 0 t6], #[]⟩) (h2 : K.lookup C = some ⟨.type "tuple", d, .seq items n, sl⟩)
    (h3 : (items.map reRawOf).map (·.toNat) = code) : Pat h P code := ⟨a0, a1, a3, a4, C, t2, t6, X _ _ h1, _, items, n, X _ _ h2, rfl, rfl, h3⟩
theorem re_method {K : Frag} {P : Addr} {d : Data} {sl : Array (Option Value)} {pl : Sem Bool} {Q : Value × List Value → Shared → Prop} (X : K.In s.heap) (h1 : K.lookup P = some ⟨.type "re.Pattern", none, d, sl⟩)
    (h : Q (.builtin "re.Pattern.sub", [.ref P]) s) : wpAny (model prog w) A (getMethod (.ref P) (PySem.Str.ofString "sub") pl) Q E s :=
  getMethod_builtin (T := "re.Pattern") ⟨_, X _ _ h1, rfl⟩ attrs_pat slot_sub type_sub (fun a e => by cases e; exact ⟨_, X _ _ h1, rfl⟩) h

theorem sub_N {code : Array Nat} {P L : Addr} {h₀ : Heap} {m : PySem.Str → Option Value} {news : List (Addr × Obj)} {x repl y : PySem.Str} {t tr : Tok} {Q : Value → Shared → Prop} (F : Fr h₀ L s.heap m) (N : News h₀ L s.heap news) (X : Pat s.heap P code) (hr : repl.cps.contains 92 = false)
    (e : subAll code x.cps repl = some y) (hx : x.length ≤ 10000) (hy : y.length ≤ 10000)
    (h : ∀ h' tk t', Fr h₀ L h' m → News h₀ L h' news → Q (.str y t') { s with heap := h', toks := tk }) :
    wpAny (model prog w) A (call (.builtin "re.Pattern.sub") [.ref P, .str repl tr, .str x t]) Q E s :=
  sub_all X hr e hx hy fun h' tk t' st => h h' tk t' (keepsFr F st) (keepsNews N st)
end
end Mine
-- part L2h
namespace Mine
abbrev Pure1 (w : World) (d u : Nat) (f : Addr) (vs : List Value) (R : Heap → Value → Heap → Prop) : Prop := PureCall PySem.Challenge.rw_pg0197_02.row.prog w (hd02.heap_39 w.params) hd02.view_39 (looseW hd02.view_39 [Str.ofString "Whitespace", Str.ofString "_twin_re_1", Str.ofString "_twin_re_2"]) d u f vs R
abbrev PureT1 (w : World) (d u : Nat) (f : Addr) (vs : List Value) (R : Heap → Value → Heap → Prop) : Prop := PureCallT PySem.Challenge.rw_pg0197_02.row.prog w (hd02.heap_39 w.params) hd02.view_39 (looseW hd02.view_39 [Str.ofString "Whitespace", Str.ofString "_twin_re_1", Str.ofString "_twin_re_2"]) d u f vs R
end Mine
-- part Cell
namespace Mine
section
variable {prog : Program} {w : World} {A₀ A : Around} {s : Shared} {base h₀ : Heap} {outer : List Env} {L : Addr} {m : Str → Option Value} {env : Env} {K : Frag} {p : Program} {loose : List Str}
  {mean : ExcName → Option Value} {mg mb : Str → Option Value} {R : Value → Heap → Prop} {name qual : Str} {params : Arguments} {body : List Stmt} {scope : Scope} {dV kV doc pm cdv ct oc : Value} {an od : Option Addr} {osl : Array (Option Value)} {f : Addr} {args : List Value} {binds : List (Str × Value)}
/-- a def with cells -/
theorem pure_enterC (B : Below A₀ base outer h₀) (F : Fr h₀ L s.heap m) (X₀ : K.In h₀) (T : Top p loose mean mg mb h₀) (hA : A.frames = some (env :: outer)) (hf : env.frame = some L) (hke : env.scope.kind = .function)
    (ho : K.lookup f = some ⟨oc, od, .func (fnOf name qual params body scope dV kV doc pm an cdv ct), osl⟩) (hcd : codeIn K cdv qual = true) (hroom : A.depth < recursionLimit)
    (hbind : BindsTo s (fnOf name qual params body scope dV kV doc pm an cdv ct) ⟨args, []⟩ binds) (hkind : (binds.all fun y => scope.names.lookup y.1 == some .local || scope.names.lookup y.1 == some .cell) = true)
    (hnd : ((cellsFrom 0 scope.names []).map (·.1)).Nodup)
    (h : ∀ L' h₁ tk cells, Fr s.heap L' h₁ (bindL (envOfC qual scope L' f cdv).kindOf binds fun _ => none) → News s.heap L' h₁ cells →
      CellsAre (bindC (envOfC qual scope L' f cdv).kindOf binds fun _ => none) (cellsFrom (L' + 1) scope.names []) cells → Below A base (env :: outer) s.heap → K.In s.heap → Top p loose mean mg mb s.heap →
      wpAny (model prog w) (A.deeper (envOfC qual scope L' f cdv)) (execs body (envOfC qual scope L' f cdv))
        (fun fl s' => EndP s R (match fl with | .ret v => v | _ => .none) s') (fun _ _ => False)
        { s with heap := h₁, toks := tk })
    (hco : scope.isCoroutine = false) (hgen : scope.isGenerator = false) (hk : scope.kind = .function) : wpAny (model prog w) A (call (.ref f) args) (EndP s R) (fun _ _ => False) s := by
  have hA' : A.frames = some (env :: outer) := hA
  have B₁ := pushX B F hf hke
  have B₂ : Below A base (env :: outer) s.heap := ⟨hA, B₁.stays, B₁.frames⟩
  refine wpAny_call ?_
  refine codeAny_call_function (fd := fnOf name qual params body scope dV kV doc pm an cdv ct) hroom ((X₀.keeps F.keep) _ _ ho) rfl hco hgen rfl (codeRec_of (X₀.keeps F.keep) hcd) (hbind _ _ _ _ ?_)
  refine wpAny_newFunctionEnv_cells hk (kindsX hkind _) fun env' he s' x => ?_
  subst he
  refine ⟨(T.nolimit.keeps F.keep).keeps x.toInCall.keep, codeAny_func ?_⟩
  obtain ⟨h₁, tk, rfl, _⟩ := x.done
  have hk₁ := x.toInCall.keep
  obtain ⟨cells, NC, Y⟩ := Cl.news (h₀ := s.heap) (Nat.le_refl _) fun n c hm => ⟨x.cell n c (lookup_of_mem_nodup (cellsFrom_names scope.names 0 (s.heap.objs.size + 1) [] [] rfl ▸ hnd) hm), x.above n c hm⟩
  refine wpAny_mono (h s.heap.objs.size h₁ tk cells ⟨x.toInCall.ns, hk₁, Nat.le_refl _⟩ NC Y B₂ (X₀.keeps F.keep) (T.keeps F.keep)) (fun fl s' hl => hl) fun _ _ y => y.elim
end
end Mine
-- part Loop2
namespace Mine
section
variable {prog : Program} {w : World} {A : Around} {E : Value → Shared → Prop} {s : Shared} {env : Env} {h₀ : Heap} {L : Addr} {x : Str} {Q : Flow → Shared → Prop}

/-- what the end of a turn of a while loop must show -/
def WTurn0 {σ : Type} (h₀ : Heap) (L : Addr) (x : Str) (m₀ : Str → Option Value) (Led : σ → List (Addr × Obj)) (ps : σ → List (Str × Value)) (stored : List Str) (Inv : Nat → σ → Prop) (n : Nat) (s₁ : Shared) (Q : Flow → Shared → Prop) (f : Flow) (s₂ : Shared) : Prop :=
  match f with
  | .ret v => Q (.ret v) s₂
  | .brk => Q .next s₂
  | _ => ∃ h' tk m' c n', s₂ = { s₁ with heap := h', toks := tk } ∧ n' < n ∧ Fr h₀ L h' m' ∧ News h₀ L h' (Led c) ∧ (∀ p ∈ ps c, m' p.1 = some p.2) ∧
    (∀ z, z ≠ x → (∀ p ∈ ps c, z ≠ p.1) → stored.contains z = false → m' z = m₀ z) ∧ Inv n' c
structure WTurn {σ : Type} (h₀ : Heap) (L : Addr) (x : Str) (m₀ : Str → Option Value) (Led : σ → List (Addr × Obj)) (ps : σ → List (Str × Value)) (stored : List Str) (Inv : Nat → σ → Prop) (n : Nat) (s₁ : Shared) (Q : Flow → Shared → Prop) (f : Flow) (s₂ : Shared) : Prop where
  out : WTurn0 h₀ L x m₀ Led ps stored Inv n s₁ Q f s₂

theorem WTurn.go {σ : Type} {m₀ : Str → Option Value} {Led : σ → List (Addr × Obj)} {ps : σ → List (Str × Value)} {stored : List Str} {Inv : Nat → σ → Prop} {n n' : Nat} {s₁ : Shared} {h' : Heap} {tk : Nat} {m' : Str → Option Value} (c : σ) (hn : n' < n)
    (F : Fr h₀ L h' m') (N : News h₀ L h' (Led c)) (hk : ∀ p ∈ ps c, m' p.1 = some p.2) (hr : ∀ z, z ≠ x → (∀ p ∈ ps c, z ≠ p.1) → stored.contains z = false → m' z = m₀ z) (hi : Inv n' c) :
    WTurn h₀ L x m₀ Led ps stored Inv n s₁ Q .next { s₁ with heap := h', toks := tk } := ⟨⟨h', tk, m', c, n', rfl, hn, F, N, hk, hr, hi⟩⟩

end
end Mine
namespace Mine
/-- a goal that the walker leaves alone -/
structure Hold (P : Prop) : Prop where
  out : P
theorem Hold.stop {P : Prop} (h : Hold P) : P := h.out
theorem Hold.go {P : Prop} (h : P) : Hold P := ⟨h⟩
end Mine
namespace Mine
end Mine
-- part Rules2
namespace Mine
section
variable {prog : Program} {w : World} {A : Around} {E : Value → Shared → Prop} {s : Shared} {h₀ : Heap} {L : Addr} {m : Str → Option Value} {news : List (Addr × Obj)} {x y : Str} {t u : Tok} {value slice : Expr}
theorem add_T {Q : Value → Shared → Prop} (h : ∀ t' tk, (x ++ y).length = x.length + y.length → Q (.str (x ++ y) t') { s with toks := tk }) (hz : x.length + y.length ≤ 1000) : wpAny (model prog w) A (binaryOp .Add (.str x t) (.str y u)) Q E s :=
  add_str (fun t' tk => h t' tk (Str.length_append x y)) (Nat.le_trans hz (by decide))
end
end Mine
-- part Rules3
namespace Mine
section
variable {prog : Program} {w : World} {A : Around} {E : Value → Shared → Prop} {s : Shared} {h₀ : Heap} {L D : Addr} {m : Str → Option Value} {news news' : List (Addr × Obj)} {Q : Value → Shared → Prop}
theorem append_V {vs : List Value} {n : Nat} {x : Value} (F : Fr h₀ L s.heap m) (N : News h₀ L s.heap news) (U : Upd D (W.listOf vs.toArray n) (W.listOf (vs ++ [x]).toArray (n + 1)) news news') (hz : vs.length ≤ 100000)
    (h : ∀ h', Fr h₀ L h' m → News h₀ L h' news' → Q .none { s with heap := h' }) : wpAny (model prog w) A (call (.builtin "list.append") [.ref D, x]) Q E s := by
  have e : (vs ++ [x]).toArray = vs.toArray.push x := by simp
  rw [e] at U
  exact append_K F N U h (by rw [List.size_toArray, sizeLine_eq]; omega)
end
end Mine
-- part Loop3
namespace Mine
/-- the end of a turn of a loop whose target is any: it goes on -/
structure TurnEndT {σ : Type} (h₀ : Heap) (L I : Addr) (m₀ : Str → Option Value) (Led : σ → List (Addr × Obj)) (ps : σ → List (Str × Value)) (stored : List Str) (Inv : σ → Prop) (own : List (Addr × Obj)) (s₁ : Shared) (f : Flow) (s₂ : Shared) : Prop where
  nx : f = .next
  go : ∃ h' tk m' c, s₂ = { s₁ with heap := h', toks := tk } ∧ Fr h₀ L h' m' ∧ News h₀ L h' (Led c ++ own) ∧ (∀ p ∈ Led c, p.1 ≠ I) ∧ (∀ p ∈ ps c, m' p.1 = some p.2) ∧
    (∀ z, z ≠ Str.ofString "?" → (∀ p ∈ ps c, z ≠ p.1) → stored.contains z = false → m' z = m₀ z) ∧ Inv c
theorem TurnEndT.mk' {σ : Type} {h₀ : Heap} {L I : Addr} {m₀ : Str → Option Value} {Led : σ → List (Addr × Obj)} {ps : σ → List (Str × Value)} {stored : List Str} {Inv : σ → Prop} {own : List (Addr × Obj)} {s₁ : Shared} {h' : Heap} {tk : Nat} {m' : Str → Option Value} (c : σ)
    (F : Fr h₀ L h' m') (N : News h₀ L h' (Led c ++ own)) (ho : ∀ p ∈ Led c, p.1 ≠ I) (hk : ∀ p ∈ ps c, m' p.1 = some p.2) (hr : ∀ z, z ≠ Str.ofString "?" → (∀ p ∈ ps c, z ≠ p.1) → stored.contains z = false → m' z = m₀ z) (hi : Inv c) :
    TurnEndT h₀ L I m₀ Led ps stored Inv own s₁ .next { s₁ with heap := h', toks := tk } := ⟨rfl, h', tk, m', c, rfl, F, N, ho, hk, hr, hi⟩
section
variable {prog : Program} {w : World} {A : Around} {E : Value → Shared → Prop} {s : Shared} {env : Env} {h₀ : Heap} {target : Expr} {body : List Stmt} {Q : Flow → Shared → Prop}
theorem kst_frT {σ : Type} {h : Heap} {L : Addr} {m₀ m₁ : Str → Option Value} {ps : List (Str × Value)} {stored : List Str} (h1 : ∀ p ∈ ps, m₁ p.1 = some p.2) (h2 : ∀ z, z ≠ Str.ofString "?" → (∀ p ∈ ps, z ≠ p.1) → stored.contains z = false → m₁ z = m₀ z) (F : Fr h₀ L h m₁) :
    Fr h₀ L h (fun y => if y = Str.ofString "?" then m₁ y else kstB (fun z => if stored.contains z then m₁ z else m₀ z) ps y) := kst_frOut h1 h2 F
theorem iterT_list {σ : Type} {l : Addr} {vs : List Value} {m₀ : Str → Option Value} (Led : σ → List (Addr × Obj)) (ps : σ → List (Str × Value)) (stored : List Str) (Inv : Nat → σ → Prop) (c₀ : σ)
    (hh : A.handled = none) (hl : s.heap.IsList l vs.toArray) (hlL : l ≠ env.locals) (F : Fr h₀ env.locals s.heap m₀) (N : News h₀ env.locals s.heap (Led c₀)) (hk : ∀ p ∈ ps c₀, m₀ p.1 = some p.2) (hi : Inv 0 c₀)
    (turn : ∀ i v (c : σ) (u : Str → Option Value) (s₁ : Shared) own I oI, vs[i]? = some v → Inv i c → (∀ p ∈ Led c, p.1 ≠ I) → (I, oI) ∈ own → (∀ p ∈ own, p.1 = I ∨ p.1 = l) →
      Fr h₀ env.locals s₁.heap (fun y => if y = Str.ofString "?" then u y else kstB (fun z => if stored.contains z then u z else m₀ z) (ps c) y) → News h₀ env.locals s₁.heap (Led c ++ own) →
      wpAny (model prog w) A (assign target env v) (fun _ s₃ => wpAny (model prog w) A (execs body env) (TurnEndT h₀ env.locals I m₀ Led ps stored (Inv (i + 1)) own s₁) E s₃) E s₁)
    (done : ∀ (c : σ) (u : Str → Option Value) h tk, Inv vs.length c → Fr h₀ env.locals h (fun y => if y = Str.ofString "?" then u y else kstB (fun z => if stored.contains z then u z else m₀ z) (ps c) y) → News h₀ env.locals h (Led c) → Q .next { s with heap := h, toks := tk }) :
    wpAny (model prog w) A (pyIter (.ref l)) (fun it s₂ => LoopAtT prog w A h₀ env target body Q E it s₂) E s := by
  refine wpAny_pyIter_list hl ?_
  obtain ⟨ol, hol, _⟩ := id hl
  have hne : l ≠ s.heap.objs.size := Nat.ne_of_lt (Heap.lt_size hol)
  have W := Walks.list (prog := prog) (w := w) hh s.heap.objs.size l hne vs.toArray
  rw [List.size_toArray] at W
  let J : Nat → (Str → Option Value) → List (Addr × Obj) → Prop := fun i m news => ∃ c, news = Led c ∧ (∀ p ∈ ps c, m p.1 = some p.2) ∧ (∀ z, z ≠ Str.ofString "?" → (∀ p ∈ ps c, z ≠ p.1) → stored.contains z = false → m z = m₀ z) ∧ Inv i c
  refine ⟨s.heap.objs.size, [s.heap.objs.size, l], [s.heap.objs.size], vs.length, _, _, m₀, Led c₀, J, rfl, W, ?_, ?_, ?_, ⟨⟨_, Heap.get?_push_size _ rfl, rfl, rfl⟩, hl.at fun o e => Heap.get?_push_of_some _ e⟩, F.push _, (fun p hp => ⟨Heap.get?_push_of_some _ (N p hp).1, (N p hp).2⟩), (fun i s' v Q' st hQ' => letGo_listiter st.1 hQ'), ⟨c₀, rfl, hk, fun _ _ _ _ => rfl, hi⟩, ?_, ?_⟩
  · intro hm
    rcases List.mem_cons.mp hm with e | hm
    · exact absurd F.ns.lt (e ▸ Nat.lt_irrefl _)
    · exact hlL (List.mem_singleton.mp hm).symm
  · intro b hb; rw [List.mem_singleton.mp hb]; exact next_is_new F
  · intro p hp hm; exact absurd (List.mem_singleton.mp hm) (Nat.ne_of_lt (Heap.lt_size (N p hp).1))
  · rintro i v m₁ news₁ s₁ own hin hP ⟨c, rfl, h1, h2, hj⟩ hoff hown _ hall hst₁ F₁ N₁
    obtain ⟨oI, hoI, _⟩ := hst₁.1
    have hoff' : ∀ p ∈ Led c, p.1 ≠ s.heap.objs.size := fun p hp e => hoff p hp (List.mem_singleton.mpr e)
    have hmem : (s.heap.objs.size, oI) ∈ own := hall _ (List.mem_cons_self ..) (next_is_new F) oI hoI
    refine wpAny_mono (turn i v c m₁ s₁ own _ oI (by simpa using hP) hj hoff' hmem (fun p hp => by simpa using hown p hp) (kst_frT (σ := σ) h1 h2 F₁) (fun p hp => N₁ p ((List.mem_append.mp hp).elim (fun h => List.mem_append.mpr (.inr h)) fun h => List.mem_append.mpr (.inl h))))
      (fun _ s₃ z => wpAny_mono z (fun f s₂ z => ?_) fun _ _ e => e) fun _ _ e => e
    obtain ⟨rfl, h', tk, m', c', e, F', N', ho, g1, g2, g3⟩ := z
    exact ⟨rfl, h', tk, m', Led c', e, F', fun p hp => N' p ((List.mem_append.mp hp).elim (fun h => List.mem_append.mpr (.inr h)) fun h => List.mem_append.mpr (.inl h)), fun p hp hm => ho p hp (List.mem_singleton.mp hm), c', rfl, g1, g2, g3⟩
  · rintro h' tk m' news' F' N' _ ⟨c, rfl, h1, h2, hj⟩
    exact done c m' h' tk hj (kst_frT (σ := σ) h1 h2 F') N'
end
end Mine
open Mine
local macro_rules | `(tactic| walk_at "EndP") => `(tactic| (refine EndP.intro (Fr.keep (by assumption)) ?_))
local macro_rules | `(tactic| walk_at "p_enter") => `(tactic| (
  unfold Pure1
  k_fill
  intro gd env outer A₀ base h₀ L m s mean mg mb B F X T hf hk
  refine' pure_enter B F X T (by exact rfl) hf hk (by k_is) (by k_is) (by exact Nat.le_of_ble_eq_true rfl) (by exact BindsTo.of_eq rfl) (by exact locs rfl) ?_ (by exact rfl) (by exact rfl) (by exact rfl) (by decide); 
  clear hf hk F X T B; intro L' h' F' N' B' X' T'; (try dsimp only); (try k_fold)))
local macro_rules | `(tactic| walk_at "p_enterT") => `(tactic| (
  unfold PureT1
  k_fill
  intro gd env outer A₀ base h₀ L m s mean mg mb tT B F X T hf hk
  refine' pure_enterT tT B F X T (by exact rfl) hf hk (by k_is) (by k_is) (by exact Nat.le_of_ble_eq_true rfl) (by exact BindsTo.of_eq rfl) (by exact locs rfl) ?_ (by exact rfl) (by exact rfl) (by exact rfl) (by decide); 
  clear hf hk F X T B tT; intro L' h' tk0 tT F' N' B' X' T'; (try dsimp only); (try k_fold)))
local macro_rules | `(tactic| k_steps) => `(tactic| repeat' ((fail_if_success (with_reducible refine Hold.go ?_)); (fail_if_success (with_reducible refine TurnEnd.mk ?_)); (fail_if_success (with_reducible refine WTurn.mk ?_)); (fail_if_success (with_reducible refine TurnEndT.mk ?_ ?_)); (first | (k_unfold; (try dsimp only)) | (k_end; wrow_close) | walk1 | (dsimp only; walk1) | (leave1; walk_say "STEP leave1"; (try dsimp only)) | fail "no step")))
local macro_rules | `(tactic| walk_at "p_enterC") => `(tactic| (
  unfold Pure1
  k_fill
  intro gd env outer A₀ base h₀ L m s mean mg mb B F X T hf hk
  refine' pure_enterC B F X T (by exact rfl) hf hk (by k_is) (by k_is) (by exact Nat.le_of_ble_eq_true rfl) (by exact BindsTo.of_eq rfl) (by exact rfl) (by decide +kernel) ?_ (by exact rfl) (by exact rfl) (by exact rfl); 
  clear hf hk F X T B; intro L' h' tk' cells' F' N' Y' B' X' T'; k_cells Y'; (try simp only [List.cons_append, List.nil_append] at N'); (try dsimp only); (try k_fold)))
-- part Kq2
namespace Mine
section
theorem off_Kq2 : True := by w_top off; trivial
abbrev crlf : Str := Str.ofString "\x0d\n"
abbrev dots : Str := Str.ofString ".."
def code1 : Array Nat := #[14, 4, 0, 1, 1, 6, 1, 16, 46, 1]
def code2 : Array Nat := #[14, 9, 4, 1, 2, 16, 10, 16, 13, 0, 7, 7, 16, 13, 16, 10, 15, 18, 5, 16, 10, 15, 13, 11, 16, 13, 5, 5, 0, 16, 10, 1, 15, 2, 0, 1]
local macro_rules | `(tactic| walk_at "getMethod ref") => `(tactic| (k_here; k_dflt (refine' re_method (by k_in) (by k_is) ?_; k_whole)))
local macro_rules | `(tactic| walk_at "call builtin:re.Pattern.sub") => `(tactic| (k_here; first
  | (refine' sub_N (by k_asm) (by k_asm) (pat_K (by k_in) (P := 121) (C := 120) (by k_is) (by k_is) (code := code2) (by decide +kernel)) (by decide +kernel) (by assumption) (by omega) (by omega) ?_; intro h' tk' t' F' N')
  | (refine' sub_N (by k_asm) (by k_asm) (pat_K (by k_in) (P := 116) (C := 115) (by k_is) (by k_is) (code := code1) (by decide +kernel)) (by decide +kernel) (by assumption) (by omega) (by omega) ?_; intro h' tk' t' F' N')))
theorem quo (w : World) (data mid out : Str) (t1 : Tok) (e2 : subAll code2 data.cps crlf = some mid) (e1 : subAll code1 mid.cps dots = some out) (s0 : data.length ≤ 10000) (s1 : mid.length ≤ 10000) (s2 : out.length ≤ 10000) :
    Pure1 w 600 6000 128 [.str data t1] (fun _ v _ => ∃ t, v = .str out t) := by
  walk_at "p_enter"
  k_steps
end
end Mine
-- part Ki2
namespace Mine
section
theorem off_Ki2 : True := by w_top off; trivial
local macro_rules | `(tactic| walk_at "EndI") => `(tactic| (refine EndI.intro (Fr.keep (by assumption)) ?_))
local macro_rules | `(tactic| walk_at "c_enter") => `(tactic| (
  unfold Pure1
  k_fill
  intro gd env outer A₀ base h₀ L m s mean mg mb B F X T hf hk
  refine' cls_enter B F X T (by exact rfl) hf hk (by k_is) (by k_is) (by k_is) (by k_is) (by k_is) (by exact Nat.le_of_ble_eq_true rfl) (by exact fun x s => BindsTo.of_eq rfl) (by exact fun x => locs rfl) ?_ (by exact rfl) (by exact rfl) (by exact rfl) (by decide);
  clear hf hk F X T B; intro x' dx' L' h' tk' l1' l2' l3' F' N' B' X' T'; (try dsimp only); (try k_fold)))
local macro_rules | `(tactic| walk_at "exec For Name Attribute cons nil") => `(tactic| (k_here; (rename Fr _ _ _ _ => lF'); (with_unfolding_all refine' For_invVF lF' (by exact rfl) (by exact rfl) ?_; k_whole)))
local macro_rules | `(tactic| k_all) => `(tactic| (refine' ne_of_all (by assumption) (by (intro p hp; k_ownIn))))
local macro_rules | `(tactic| walk_at "call type:tuple") => `(tactic| (k_here; (with_reducible show wpAny _ _ (call (Value.type _) [Value.ref _]) _ _ _); k_dflt (refine' tuple_I (by k_asm) (by k_asm) (by k_mem) (by with_reducible assumption) (by omega) ?_); intro D' h' F' N' l1; (have l9 := l1); (try k_lt l1)))
-- mysetItem
local macro_rules | `(tactic| walk_at "setItem ref int") => `(tactic| ((k_here; (with_reducible show wpAny _ _ (setItem (Value.ref _) (Value.int _ _) (Value.int _ _)) _ _ _); k_dflt (refine' ksa_set (by k_asm) (by k_asm) (by k_upd) (by with_reducible assumption) (by omega) (by ((try simp only [List.length_append, List.length_replicate]); omega)) (by omega) ?_; k_whole); intro h' F' N' hi' hl' hs')))
local macro_rules | `(tactic| walk_at "pyIter str") => `(tactic| (fail "mine"))
local macro_rules | `(tactic| walk_at "call builtin:len") => `(tactic| (k_here; (with_reducible show wpAny _ _ (call (Value.builtin "len") [Value.ref _]) _ _ _); k_dflt (refine' len_I (by k_asm) (by k_mem) (by with_reducible assumption) (by omega) ?_); intro t' tk'))
local macro_rules | `(tactic| walk_at "binaryOp Add ref ref") => `(tactic| (k_here; k_dflt (refine' add_I (by k_asm) (by k_asm) (by k_mem) (by k_mem) (by with_reducible assumption) (by with_reducible assumption) (by (simp only [List.length_replicate]; omega)) ?_); intro D' h' F' N' i' l1; (have l9 := l1); (try k_lt l1)))
local macro_rules | `(tactic| walk_at "binaryOp Mult ref int") => `(tactic| (k_here; k_dflt (refine' mul_I (by k_asm) (by k_asm) (by k_mem) (by omega) (by omega) ?_); intro D' h' ws' F' N' i' l1; (have l9 := l1); (try k_lt l1)))
def bump (l : List Int) (b : Int) : List Int :=
  match (if (l.length : Int) ≤ b then l ++ List.replicate (b - l.length + 1).toNat 0 else l) with
  | l' => l'.set b.toNat (l'.getD b.toNat 0 + 1)
def wsStep (st : WSt) (c : Nat) : WSt := if c = 32 then { st with b := st.b + 1, n := st.n + 1 } else { cnt := bump st.cnt st.b, b := 0, n := st.n + 1, nt := st.nt + 1 }
def wsAll (l : List Nat) : WSt := l.foldl wsStep ⟨[], 0, 0, 0⟩
structure WS where
  D : Addr
  vs : List Value
  ep : Nat
  st : WSt
  tb : Tok
  tn : Tok
  tnt : Tok

theorem bump_len (l : List Int) (b : Int) (k : Nat) (h0 : 0 ≤ b) (hb : b ≤ k) (hl : l.length ≤ k + 1) : (bump l b).length ≤ k + 1 := by
  unfold bump
  dsimp only
  rw [List.length_set]
  split
  · rw [List.length_append, List.length_replicate]; omega
  · exact hl
theorem ws_bound : ∀ (l : List Nat) (st : WSt) (k : Nat), 0 ≤ st.b → st.b ≤ k → st.cnt.length ≤ k + 1 →
    0 ≤ (l.foldl wsStep st).b ∧ (l.foldl wsStep st).b ≤ k + l.length ∧ (l.foldl wsStep st).cnt.length ≤ k + l.length + 1
  | [], st, k, h0, h1, h2 => ⟨h0, by simpa using h1, by simpa using h2⟩
  | c :: l, st, k, h0, h1, h2 => by
    have key : 0 ≤ (wsStep st c).b ∧ (wsStep st c).b ≤ ((k + 1 : Nat) : Int) ∧ (wsStep st c).cnt.length ≤ k + 1 + 1 := by
      unfold wsStep
      split
      · exact ⟨by show 0 ≤ st.b + 1; omega, by show st.b + 1 ≤ _; omega, by show st.cnt.length ≤ _; omega⟩
      · exact ⟨Int.le_refl _, by show (0 : Int) ≤ _; omega, Nat.le_succ_of_le (bump_len _ _ _ h0 h1 h2)⟩
    have := ws_bound l (wsStep st c) (k + 1) key.1 key.2.1 key.2.2
    rw [List.foldl_cons, List.length_cons]
    refine ⟨this.1, ?_, ?_⟩
    · have h := this.2.1; push_cast at h ⊢; omega
    · have h := this.2.2; omega
theorem ws_take (x : Str) (i c : Nat) (h : x.cps[i]? = some c) : wsAll (x.cps.toList.take (i + 1)) = wsStep (wsAll (x.cps.toList.take i)) c := by
  have h' : x.cps.toList[i]? = some c := by rw [Array.getElem?_toList]; exact h
  unfold wsAll
  rw [List.take_add_one, h']
  simp
theorem wsp (w : World) (x : Str) (t : Tok) (hx : ∀ c ∈ x.cps.toList, c = 32 ∨ c = 9) (z : x.length ≤ 200) : Pure1 w 600 6000 100 [.str x t] (WsMade w.params 100 x (wsAll x.cps.toList)) := by
  walk_at "c_enter"
  k_steps
  (rename News _ _ _ _ => N1)
  (rename Fr _ _ _ _ => F1)
  (rename (_ < _ ∧ _ < _ ∧ _ < _) => l1)
  refine' iter_text (σ := WS) (fun c => (c.D, W.listOf c.vs.toArray c.ep) :: restOf N1) (fun c => [(Str.ofString "count", .ref c.D), (Str.ofString "b", .int c.st.b c.tb), (Str.ofString "n", .int c.st.n c.tn), (Str.ofString "nt", .int c.st.nt c.tnt)]) []
    (fun i c => IntsAre c.vs c.st.cnt ∧ c.st = wsAll (x.cps.toList.take i) ∧ AllLt c.D (restOf N1)) ⟨_, [], 0, ⟨[], 0, 0, 0⟩, _, _, _⟩ rfl F1 N1 ?hk ?hi ?turn ?done
  case hk => 
    intro p hp
    simp only [List.mem_cons, List.mem_nil_iff, or_false] at hp
    rcases hp with rfl | rfl | rfl | rfl <;> rfl
  case hi => exact ⟨.nil, rfl, by dsimp only [restOf, AllLt]; exact ⟨by omega, by omega, by omega, trivial⟩⟩
  case turn =>
    intro i n t c u h tk own I oI hn hj ho hm hf F2 N2
    obtain ⟨h1, h2, h3⟩ := hj
    dsimp only [restOf, AllLt, kstB] at h3 F2 N2 ho
    simp only [List.cons_append, List.nil_append, and_true] at N2 h3
    have hnx := hx n (List.mem_of_getElem? (i := i) (by rw [Array.getElem?_toList]; exact hn))
    rcases hnx with rfl | rfl
    · show wpAny _ _ _ _ _ _
      k_fold
      k_steps
      refine' TurnEnd.go ⟨_, _, _, wsStep c.st 32, _, _, _⟩ ?F ?N ?ho ?hk ?hr ?hi
      case F => assumption
      case N => assumption
      case ho => exact ho
      case hk =>
        intro p hp
        simp only [List.mem_cons, List.mem_nil_iff, or_false] at hp
        rcases hp with rfl | rfl | rfl | rfl <;> rfl
      case hr =>
        intro z hz1 hz2 _
        simp only [List.mem_cons, List.mem_nil_iff, or_false, forall_eq_or_imp, forall_eq] at hz2
        obtain ⟨q1, q2, q3, q4⟩ := hz2
        simp only [if_neg hz1, if_neg q1, if_neg q2, if_neg q3, if_neg q4, List.contains_nil, Bool.false_eq_true, if_false]
      case hi => exact ⟨h1, by rw [ws_take x i 32 hn, ← h2], by dsimp only [restOf, AllLt]; simp only [and_true]; exact h3⟩
    · show wpAny _ _ _ _ _ _
      have hs1 : 0 ≤ c.st.b ∧ c.st.b ≤ 200 ∧ c.st.cnt.length ≤ 201 := by
        have h := ws_bound (x.cps.toList.take i) ⟨[], 0, 0, 0⟩ 0 (Int.le_refl _) (Int.le_refl _) (Nat.zero_le _)
        have hl : (x.cps.toList.take i).length ≤ 200 := by rw [List.length_take]; have : x.cps.toList.length = x.length := Array.length_toList; omega
        rw [h2]; exact ⟨h.1, by have := h.2.1; show (List.foldl wsStep _ _).b ≤ 200; omega, by have := h.2.2; show (List.foldl wsStep _ _).cnt.length ≤ 201; omega⟩
      obtain ⟨hs1, hs2, hs3⟩ := hs1
      have hoD : OwnOff own [c.D] := by intro p hp b hb; rw [List.mem_singleton.mp hb, hf p hp]; exact Ne.symm (ho _ (List.mem_cons_self ..))
      show wpAny _ _ _ _ _ _
      k_fold
      k_steps
      · (rename News _ _ _ _ => N3)
        have hb : bump c.st.cnt c.st.b = (c.st.cnt ++ List.replicate (c.st.b - (c.st.cnt.length : Int) + 1).toNat 0).set c.st.b.toNat ((c.st.cnt ++ List.replicate (c.st.b - (c.st.cnt.length : Int) + 1).toNat 0).getD c.st.b.toNat 0 + 1) := by
          unfold bump; dsimp only; rw [if_pos (by first | assumption | omega | (simp only [decide_eq_true_eq] at *; omega))]
        refine' TurnEnd.go ⟨(lstOf N3).1, (lstOf N3).2.1, (lstOf N3).2.2, wsStep c.st 9, _, _, _⟩ ?F ?N ?ho ?hk ?hr ?hi
        case F => assumption
        case N => exact news_sub N3 (.cons_cons _ (.cons _ (.cons _ (.cons _ (.refl _)))))
        case ho =>
          intro p hp
          rcases List.mem_cons.mp hp with rfl | hp
          · have l9 : (I, oI).1 < _ := (‹∀ p ∈ _, p.1 < _› : ∀ p ∈ _, _) (I, oI) (by k_ownIn)
            exact Nat.ne_of_gt l9
          · exact ho p (List.mem_cons_of_mem _ hp)
        case hk =>
          intro p hp
          simp only [List.mem_cons, List.mem_nil_iff, or_false] at hp
          rcases hp with rfl | rfl | rfl | rfl <;> rfl
        case hr =>
          intro z hz1 hz2 _
          simp only [List.mem_cons, List.mem_nil_iff, or_false, forall_eq_or_imp, forall_eq] at hz2
          obtain ⟨q1, q2, q3, q4⟩ := hz2
          simp only [if_neg hz1, if_neg q1, if_neg q2, if_neg q3, if_neg q4, List.contains_nil, Bool.false_eq_true, if_false]
        case hi => exact ⟨by show IntsAre _ (bump c.st.cnt c.st.b); rw [hb]; assumption, by rw [ws_take x i 9 hn, ← h2], by dsimp only [restOf, AllLt]; simp only [and_true]; exact ⟨by omega, by omega, by omega⟩⟩
      · (rename News _ _ _ _ => N3)
        have hb : bump c.st.cnt c.st.b = c.st.cnt.set c.st.b.toNat (c.st.cnt.getD c.st.b.toNat 0 + 1) := by
          unfold bump; dsimp only; rw [if_neg (by first | assumption | omega | (simp only [decide_eq_false_iff_not] at *; omega))]
        refine' TurnEnd.go ⟨(lstOf N3).1, (lstOf N3).2.1, (lstOf N3).2.2, wsStep c.st 9, _, _, _⟩ ?F ?N ?ho ?hk ?hr ?hi
        case F => assumption
        case N => exact N3
        case ho =>
          intro p hp
          rcases List.mem_cons.mp hp with rfl | hp
          · exact ho (c.D, W.listOf c.vs.toArray c.ep) (List.mem_cons_self ..)
          · exact ho p (List.mem_cons_of_mem _ hp)
        case hk =>
          intro p hp
          simp only [List.mem_cons, List.mem_nil_iff, or_false] at hp
          rcases hp with rfl | rfl | rfl | rfl <;> rfl
        case hr =>
          intro z hz1 hz2 _
          simp only [List.mem_cons, List.mem_nil_iff, or_false, forall_eq_or_imp, forall_eq] at hz2
          obtain ⟨q1, q2, q3, q4⟩ := hz2
          simp only [if_neg hz1, if_neg q1, if_neg q2, if_neg q3, if_neg q4, List.contains_nil, Bool.false_eq_true, if_false]
        case hi => exact ⟨by show IntsAre _ (bump c.st.cnt c.st.b); rw [hb]; assumption, by rw [ws_take x i 9 hn, ← h2], by dsimp only [restOf, AllLt]; simp only [and_true]; exact ⟨by omega, by omega, by omega⟩⟩
  case done =>
    intro c u h tk hj F2 N2
    obtain ⟨h1, h2, h3⟩ := hj
    dsimp only [restOf, AllLt, kstB] at h3 F2 N2
    simp only [and_true] at h3
    have hs1 : 0 ≤ c.st.b ∧ c.st.b ≤ 200 ∧ c.st.cnt.length ≤ 201 := by
      have h := ws_bound (x.cps.toList.take x.length) ⟨[], 0, 0, 0⟩ 0 (Int.le_refl _) (Int.le_refl _) (Nat.zero_le _)
      have hl : (x.cps.toList.take x.length).length ≤ 200 := by rw [List.length_take]; have : x.cps.toList.length = x.length := Array.length_toList; omega
      rw [h2]; exact ⟨h.1, by have := h.2.1; show (List.foldl wsStep _ _).b ≤ 200; omega, by have := h.2.2; show (List.foldl wsStep _ _).cnt.length ≤ 201; omega⟩
    obtain ⟨hs1, hs2, hs3⟩ := hs1
    dsimp only
    show wpAny _ _ _ _ _ _
    (try k_fold)
    k_steps
    have h2' : c.st = wsAll x.cps.toList := by rw [h2]; congr 1; exact List.take_of_length_le (Nat.le_of_eq Array.length_toList)
    rw [← h2']
    (rename News _ _ _ _ => N3)
    refine ⟨_, _, _, _, c.vs, ⟨_, _, _, _, _, _, _, _, _⟩, rfl, made_of N3 (.cons_cons _ (.cons_cons _ (.cons _ (.cons _ (.cons_cons _ (.cons_cons _ .slnil)))))) ?_, h1, ?_, ?_, ?_⟩
    · intro p hp
      simp only [List.mem_cons, List.mem_nil_iff, or_false] at hp
      rcases hp with rfl | rfl | rfl | rfl <;> (dsimp only; omega)
    all_goals omega
end
end Mine
-- part ZipD
namespace Mine
structure ZApart (z TI TO i1 i2 : Addr) (fp1 fp2 : List Addr) : Prop where
  TIz : TI ≠ z
  TOz : TO ≠ z
  TITO : TI ≠ TO
  TI1 : TI ≠ i1
  TI2 : TI ≠ i2
  z1 : z ∉ fp1
  z2 : z ∉ fp2
  t1 : TO ∉ fp1
  t2 : TO ∉ fp2
  d1 : i2 ∉ fp1
  d2 : i1 ∉ fp2
  m1 : i1 ∈ fp1
  m2 : i2 ∈ fp2
section
variable {prog : Program} {w : World} {A : Around} {E : Value → Shared → Prop} {s : Shared} {z TI TO i1 i2 : Addr} {fp1 fp2 : List Addr} {n1 n2 k : Nat} {P1 P2 : Nat → Value → Prop} {St1 St2 : Nat → Heap → Prop} {a b : Value}
theorem zip_next_itemD {Q : Value → Shared → Prop} (Y : ZApart z TI TO i1 i2 fp1 fp2) (D1 : Draws prog w A i1 fp1 n1 P1 St1) (D2 : Draws prog w A i2 fp2 n2 P2 St2)
    (hz : IsZip s.heap z TI TO .none) (hTI : IsPair s.heap TI (.ref i1) (.ref i2)) (hTO : IsPair s.heap TO a b) (h1 : St1 k s.heap) (h2 : St2 k s.heap) (hk1 : k < n1) (hk2 : k < n2)
    (hQ : ∀ x y h' tk, P1 k x → P2 k y → IsZip h' z TI TO (rawInt s.heap.objs.size) → IsPair h' TO x y → St1 (k + 1) h' → St2 (k + 1) h' → IsPair h' s.heap.objs.size x y → h'.objs.size = s.heap.objs.size + 1 →
      (∀ c o, c ≠ z → c ≠ TO → c ≠ i1 → c ≠ i2 → s.heap.get? c = some o → h'.get? c = some o) → Q (.ref s.heap.objs.size) { s with heap := h', toks := tk }) :
    wpAny (model prog w) A (Builtin.«zip.__next__» ⟨[.ref z], []⟩) (fun fin s' => ∃ v, fin = .done (.ret v) ∧ Q v s') E s := by
  obtain ⟨hp, g, d, tk₀, os⟩ := s
  have zi1 : i1 ≠ z := fun e => Y.z1 (e ▸ Y.m1)
  have zi2 : i2 ≠ z := fun e => Y.z2 (e ▸ Y.m2)
  have to1 : TO ≠ i1 := fun e => Y.t1 (e ▸ Y.m1)
  have to2 : TO ≠ i2 := fun e => Y.t2 (e ▸ Y.m2)
  have i12 : i1 ≠ i2 := fun e => Y.d1 (e ▸ Y.m1)
  show wpAny _ _ (field (.ref z) 2 >>= _) _ _ _
  refine wpAny_bind (wpAny_field hz rfl (x := .bool false) rfl ?_)
  show wpAny _ _ (field (.ref z) 3 >>= _) _ _ _
  refine wpAny_bind (wpAny_field hz rfl (x := .ref TI) rfl ?_)
  refine wpAny_bind (wpAny_seqItems hTI rfl ?_)
  show wpAny _ _ (Builtin.SmallTypes.ownedTupleIsFree (.ref z) >>= _) _ _ _
  refine wpAny_bind ?_
  unfold Builtin.SmallTypes.ownedTupleIsFree
  refine wpAny_bind (wpAny_field hz rfl (x := .none) rfl (wpAny_pure ?_))
  simp only [if_true]
  refine wpAny_bind (wpAny_rule ?_)
  refine wpAny_bind (wpAny_field hz rfl (x := .ref TO) rfl ?_)
  refine wpAny_bind (wpAny_setField_rec hz (by simp) fun h₁ hz₁ hs₁ => ?_)
  replace hz₁ : IsZip h₁ z TI TO .ellipsis := hz₁
  replace hs₁ : Heap.SameBut z hp h₁ := hs₁
  refine wpAny_bind ?_
  simp only [List.zipIdx_cons, List.zipIdx_nil, List.forIn_cons, List.forIn_nil]
  refine wpAny_bind (wpAny_bind (wpAny_onRaise ?_))
  show wpAny _ _ (Builtin.SmallTypes.nextOf (.ref i1) >>= _) _ _ ⟨h₁, g, d, tk₀, os⟩
  have f1 : St1 k h₁ := D1.frame _ _ _ h1 fun c hc o e => hs₁.extBut _ _ (fun q => Y.z1 (q ▸ hc)) e
  have f2 : St2 k h₁ := D2.frame _ _ _ h2 fun c hc o e => hs₁.extBut _ _ (fun q => Y.z2 (q ▸ hc)) e
  refine wpAny_bind (D1.item k _ _ _ hk1 f1 fun x h₂ tk₂ hPx f1₂ hs₂ => wpAny_pure ?_)
  replace hs₂ : Heap.SameBut i1 h₁ h₂ := hs₂
  have f2₂ : St2 k h₂ := D2.frame _ _ _ f2 fun c hc o e => hs₂.extBut _ _ (fun q => Y.d2 (q ▸ hc)) e
  have hTO₂ : IsPair h₂ TO a b := hs₂.extBut _ _ to1 (hs₁.extBut _ _ Y.TOz hTO)
  refine wpAny_bind (wpAny_seqItems (s := ⟨h₂, g, d, tk₂, os⟩) hTO₂ rfl ?_)
  refine wpAny_bind (wpAny_updateSeq_pair (s := ⟨h₂, g, d, tk₂, os⟩) hTO₂ fun h₃ hTO₃ hs₃ => ?_)
  replace hTO₃ : IsPair h₃ TO x b := hTO₃
  replace hs₃ : Heap.SameBut TO h₂ h₃ := hs₃
  refine wpAny_bind (wpAny_letGo (wpAny_pure ?_))
  have f1₃ : St1 (k + 1) h₃ := D1.frame _ _ _ f1₂ fun c hc o e => hs₃.extBut _ _ (fun q => Y.t1 (q ▸ hc)) e
  have f2₃ : St2 k h₃ := D2.frame _ _ _ f2₂ fun c hc o e => hs₃.extBut _ _ (fun q => Y.t2 (q ▸ hc)) e
  refine wpAny_bind (wpAny_bind (wpAny_onRaise ?_))
  show wpAny _ _ (Builtin.SmallTypes.nextOf (.ref i2) >>= _) _ _ ⟨h₃, g, d, tk₂, os⟩
  refine wpAny_bind (D2.item k _ _ _ hk2 f2₃ fun y h₄ tk₄ hPy f2₄ hs₄ => wpAny_pure ?_)
  replace hs₄ : Heap.SameBut i2 h₃ h₄ := hs₄
  have f1₄ : St1 (k + 1) h₄ := D1.frame _ _ _ f1₃ fun c hc o e => hs₄.extBut _ _ (fun q => Y.d1 (q ▸ hc)) e
  have hTO₄ : IsPair h₄ TO x b := hs₄.extBut _ _ to2 hTO₃
  refine wpAny_bind (wpAny_seqItems (s := ⟨h₄, g, d, tk₄, os⟩) hTO₄ rfl ?_)
  refine wpAny_bind (wpAny_updateSeq_pair (s := ⟨h₄, g, d, tk₄, os⟩) hTO₄ fun h₅ hTO₅ hs₅ => ?_)
  replace hTO₅ : IsPair h₅ TO x y := hTO₅
  replace hs₅ : Heap.SameBut TO h₄ h₅ := hs₅
  refine wpAny_bind (wpAny_letGo (wpAny_pure (wpAny_pure ?_)))
  have f1₅ : St1 (k + 1) h₅ := D1.frame _ _ _ f1₄ fun c hc o e => hs₅.extBut _ _ (fun q => Y.t1 (q ▸ hc)) e
  have f2₅ : St2 (k + 1) h₅ := D2.frame _ _ _ f2₄ fun c hc o e => hs₅.extBut _ _ (fun q => Y.t2 (q ▸ hc)) e
  refine wpAny_bind (wpAny_seqItems (s := ⟨h₅, g, d, tk₄, os⟩) hTO₅ rfl ?_)
  refine wpAny_bind (wpAny_newTuple ?_)
  have hsz : h₅.objs.size = hp.objs.size := by rw [hs₅.1, hs₄.1, hs₃.1, hs₂.1, hs₁.1]
  have hz₅ : IsZip h₅ z TI TO .ellipsis := hs₅.extBut _ _ Y.TOz.symm (hs₄.extBut _ _ zi2.symm (hs₃.extBut _ _ Y.TOz.symm (hs₂.extBut _ _ zi1.symm hz₁)))
  have hk₅ : ∀ c o, c ≠ z → c ≠ TO → c ≠ i1 → c ≠ i2 → hp.get? c = some o → h₅.get? c = some o := fun c o c1 c2 c3 c4 e =>
    hs₅.extBut _ _ c2 (hs₄.extBut _ _ c4 (hs₃.extBut _ _ c2 (hs₂.extBut _ _ c3 (hs₁.extBut _ _ c1 e))))
  have hzlt : z < h₅.objs.size := Heap.lt_size hz₅
  show wpAny _ _ (Builtin.SmallTypes.ownedTupleHandOut (.ref z) (.ref h₅.objs.size) >>= _) _ _ _
  refine wpAny_bind ?_
  unfold Builtin.SmallTypes.ownedTupleHandOut
  have hz₆ : IsZip (h₅.push { cls := .type "tuple", data := .seq #[x, y] }) z TI TO .ellipsis := Heap.get?_push_of_some _ hz₅
  refine wpAny_bind (wpAny_setField_rec hz₆ (by simp) fun h₇ hz₇ hs₇ => ?_)
  replace hz₇ : IsZip h₇ z TI TO (rawInt h₅.objs.size) := hz₇
  refine wpAny_setField_rec hz₇ (by simp) fun h₈ hz₈ hs₈ => ?_
  replace hz₈ : IsZip h₈ z TI TO (rawInt h₅.objs.size) := hz₈
  have up : ∀ c o, c ≠ z → h₅.get? c = some o → h₈.get? c = some o := fun c o c1 e => hs₈.extBut _ _ c1 (hs₇.extBut _ _ c1 (Heap.get?_push_of_some _ e))
  have hT₈ : IsPair h₈ h₅.objs.size x y := hs₈.extBut _ _ (Nat.ne_of_gt hzlt) (hs₇.extBut _ _ (Nat.ne_of_gt hzlt) (Heap.get?_push_size _ rfl))
  have hz8 : h₈.objs.size = h₅.objs.size + 1 := by rw [hs₈.1, hs₇.1, Heap.size_push]
  rw [hsz] at hz₈ hT₈ hz8
  refine wpAny_pure ⟨_, rfl, ?_⟩
  show Q (.ref h₅.objs.size) _
  rw [hsz]
  exact hQ x y h₈ _ hPx hPy hz₈ (up _ _ Y.TOz hTO₅) (D1.frame _ _ _ f1₅ fun c hc o e => up c o (fun q => Y.z1 (q ▸ hc)) e) (D2.frame _ _ _ f2₅ fun c hc o e => up c o (fun q => Y.z2 (q ▸ hc)) e) hT₈ hz8
    fun c o c1 c2 c3 c4 e => up c o c1 (hk₅ c o c1 c2 c3 c4 e)
theorem zip_next_endD {Q : Fin → Shared → Prop} (Y : ZApart z TI TO i1 i2 fp1 fp2) (D1 : Draws prog w A i1 fp1 n1 P1 St1) (D2 : Draws prog w A i2 fp2 n2 P2 St2)
    (hz : IsZip s.heap z TI TO .none) (hTI : IsPair s.heap TI (.ref i1) (.ref i2)) (hTO : IsPair s.heap TO a b) (h1 : St1 k s.heap) (h2 : St2 k s.heap) (hend : k = n1 ∨ (k < n1 ∧ k = n2))
    (hE : ∀ h' tk e, (∀ c o, c ≠ z → c ≠ TO → c ≠ i1 → c ≠ i2 → s.heap.get? c = some o → h'.get? c = some o) → (∃ o, h'.get? e = some o ∧ o.cls = .type "StopIteration") → E (.ref e) { s with heap := h', toks := tk }) :
    wpAny (model prog w) A (Builtin.«zip.__next__» ⟨[.ref z], []⟩) Q E s := by
  obtain ⟨hp, g, d, tk₀, os⟩ := s
  have zi1 : i1 ≠ z := fun e => Y.z1 (e ▸ Y.m1)
  have zi2 : i2 ≠ z := fun e => Y.z2 (e ▸ Y.m2)
  have to1 : TO ≠ i1 := fun e => Y.t1 (e ▸ Y.m1)
  show wpAny _ _ (field (.ref z) 2 >>= _) _ _ _
  refine wpAny_bind (wpAny_field hz rfl (x := .bool false) rfl ?_)
  show wpAny _ _ (field (.ref z) 3 >>= _) _ _ _
  refine wpAny_bind (wpAny_field hz rfl (x := .ref TI) rfl ?_)
  refine wpAny_bind (wpAny_seqItems hTI rfl ?_)
  show wpAny _ _ (Builtin.SmallTypes.ownedTupleIsFree (.ref z) >>= _) _ _ _
  refine wpAny_bind ?_
  unfold Builtin.SmallTypes.ownedTupleIsFree
  refine wpAny_bind (wpAny_field hz rfl (x := .none) rfl (wpAny_pure ?_))
  simp only [if_true]
  refine wpAny_bind (wpAny_rule ?_)
  refine wpAny_bind (wpAny_field hz rfl (x := .ref TO) rfl ?_)
  refine wpAny_bind (wpAny_setField_rec hz (by simp) fun h₁ hz₁ hs₁ => ?_)
  replace hz₁ : IsZip h₁ z TI TO .ellipsis := hz₁
  replace hs₁ : Heap.SameBut z hp h₁ := hs₁
  refine wpAny_bind ?_
  simp only [List.zipIdx_cons, List.zipIdx_nil, List.forIn_cons, List.forIn_nil]
  refine wpAny_bind (wpAny_bind (wpAny_onRaise ?_))
  show wpAny _ _ (Builtin.SmallTypes.nextOf (.ref i1) >>= _) _ _ ⟨h₁, g, d, tk₀, os⟩
  have f1 : St1 k h₁ := D1.frame _ _ _ h1 fun c hc o e => hs₁.extBut _ _ (fun q => Y.z1 (q ▸ hc)) e
  have f2 : St2 k h₁ := D2.frame _ _ _ h2 fun c hc o e => hs₁.extBut _ _ (fun q => Y.z2 (q ▸ hc)) e
  rcases hend with rfl | ⟨hlt, rfl⟩
  · refine wpAny_bind (D1.done _ _ _ f1 fun h₂ e hs₂ he => ?_)
    replace hs₂ : Heap.ExtBut i1 h₁ h₂ := hs₂
    obtain ⟨oe, hoe, hce⟩ := he
    have hz₂ : IsZip h₂ z TI TO .ellipsis := hs₂ _ _ zi1.symm hz₁
    have hez : e ≠ z := fun x => by subst x; rw [hz₂] at hoe; cases hoe; simp at hce
    refine wpAny_setField_rec hz₂ (by simp) fun h₃ _ hs₃ => hE h₃ _ e (fun c o c1 _ c3 _ x => hs₃.extBut _ _ c1 (hs₂ _ _ c3 (hs₁.extBut _ _ c1 x))) ⟨oe, hs₃.extBut _ _ hez hoe, hce⟩
  · refine wpAny_bind (D1.item k _ _ _ hlt f1 fun x h₂ tk₂ hPx f1₂ hs₂ => wpAny_pure ?_)
    replace hs₂ : Heap.SameBut i1 h₁ h₂ := hs₂
    have f2₂ : St2 k h₂ := D2.frame _ _ _ f2 fun c hc o e => hs₂.extBut _ _ (fun q => Y.d2 (q ▸ hc)) e
    have hTO₂ : IsPair h₂ TO a b := hs₂.extBut _ _ to1 (hs₁.extBut _ _ Y.TOz hTO)
    refine wpAny_bind (wpAny_seqItems (s := ⟨h₂, g, d, tk₂, os⟩) hTO₂ rfl ?_)
    refine wpAny_bind (wpAny_updateSeq_pair (s := ⟨h₂, g, d, tk₂, os⟩) hTO₂ fun h₃ hTO₃ hs₃ => ?_)
    replace hs₃ : Heap.SameBut TO h₂ h₃ := hs₃
    refine wpAny_bind (wpAny_letGo (wpAny_pure ?_))
    have f2₃ : St2 k h₃ := D2.frame _ _ _ f2₂ fun c hc o e => hs₃.extBut _ _ (fun q => Y.t2 (q ▸ hc)) e
    refine wpAny_bind (wpAny_bind (wpAny_onRaise ?_))
    show wpAny _ _ (Builtin.SmallTypes.nextOf (.ref i2) >>= _) _ _ ⟨h₃, g, d, tk₂, os⟩
    refine wpAny_bind (D2.done _ _ _ f2₃ fun h₄ e hs₄ he => ?_)
    replace hs₄ : Heap.ExtBut i2 h₃ h₄ := hs₄
    obtain ⟨oe, hoe, hce⟩ := he
    have hz₄ : IsZip h₄ z TI TO .ellipsis := hs₄ _ _ zi2.symm (hs₃.extBut _ _ Y.TOz.symm (hs₂.extBut _ _ zi1.symm hz₁))
    have hez : e ≠ z := fun x => by subst x; rw [hz₄] at hoe; cases hoe; simp at hce
    refine wpAny_setField_rec hz₄ (by simp) fun h₅ _ hs₅ => hE h₅ _ e (fun c o c1 c2 c3 c4 x => hs₅.extBut _ _ c1 (hs₄ _ _ c4 (hs₃.extBut _ _ c2 (hs₂.extBut _ _ c3 (hs₁.extBut _ _ c1 x))))) ⟨oe, hs₅.extBut _ _ hez hoe, hce⟩
theorem zip_pyNextD {Q : Option Value → Shared → Prop} (Y : ZApart z TI TO i1 i2 fp1 fp2) (D1 : Draws prog w A.in1 i1 fp1 n1 P1 St1) (D2 : Draws prog w A.in1 i2 fp2 n2 P2 St2)
    (hz : IsZip s.heap z TI TO .none) (hTI : IsPair s.heap TI (.ref i1) (.ref i2)) (hTO : IsPair s.heap TO a b) (h1 : St1 k s.heap) (h2 : St2 k s.heap) (hk1 : k < n1) (hk2 : k < n2)
    (hQ : ∀ x y h' tk, P1 k x → P2 k y → IsZip h' z TI TO (rawInt s.heap.objs.size) → IsPair h' TO x y → St1 (k + 1) h' → St2 (k + 1) h' → IsPair h' s.heap.objs.size x y → h'.objs.size = s.heap.objs.size + 1 →
      (∀ c o, c ≠ z → c ≠ TO → c ≠ i1 → c ≠ i2 → s.heap.get? c = some o → h'.get? c = some o) → Q (some (.ref s.heap.objs.size)) { s with heap := h', toks := tk }) :
    wpAny (model prog w) A (pyNext (.ref z)) Q E s := by
  have hT : s.TypeIs (.ref z) "zip" := ⟨_, hz, rfl⟩
  unfold pyNext
  exact wpAny_bind (wpAny_attempt (wpAny_callSpecial?_slot (name := Str.ofString "__next__") hT F.slot_zip_next
    (wpAny_call_entry F.slot_zip_next hT F.entry_zip_next
      (zip_next_itemD Y D1 D2 hz hTI hTO h1 h2 hk1 hk2 fun x y h' tk a1 a2 a3 a4 a5 a6 a7 a8 a9 => wpAny_pure (hQ x y h' tk a1 a2 a3 a4 a5 a6 a7 a8 a9)) (F.args_zip_next_1 _))))
theorem zip_pyEndD {Q : Option Value → Shared → Prop} (Y : ZApart z TI TO i1 i2 fp1 fp2) (D1 : Draws prog w A.in1 i1 fp1 n1 P1 St1) (D2 : Draws prog w A.in1 i2 fp2 n2 P2 St2)
    (hz : IsZip s.heap z TI TO .none) (hTI : IsPair s.heap TI (.ref i1) (.ref i2)) (hTO : IsPair s.heap TO a b) (h1 : St1 k s.heap) (h2 : St2 k s.heap) (hend : k = n1 ∨ (k < n1 ∧ k = n2))
    (hQ : ∀ h' tk, (∀ c o, c ≠ z → c ≠ TO → c ≠ i1 → c ≠ i2 → s.heap.get? c = some o → h'.get? c = some o) → Q none { s with heap := h', toks := tk }) :
    wpAny (model prog w) A (pyNext (.ref z)) Q E s := by
  have hT : s.TypeIs (.ref z) "zip" := ⟨_, hz, rfl⟩
  unfold pyNext
  refine wpAny_bind (wpAny_attempt (wpAny_callSpecial?_slot (name := Str.ofString "__next__") hT F.slot_zip_next
    (wpAny_call_entry F.slot_zip_next hT F.entry_zip_next (zip_next_endD Y D1 D2 hz hTI hTO h1 h2 hend fun h' tk e hk he => ?_) (F.args_zip_next_1 _))))
  obtain ⟨o, ho, hc⟩ := he
  refine wpAny_bind (wpAny_isInstance (T := "StopIteration") (b := true) ⟨o, ho, hc⟩ isSubtype_stop ?_)
  exact wpAny_pure (hQ _ _ hk)
end
theorem walksZ {prog : Program} {w : World} {A : Around} {z TI TO i1 i2 : Addr} {fp1 fp2 : List Addr} {n1 n2 : Nat} {P1 P2 : Nat → Value → Prop} {St1 St2 : Nat → Heap → Prop} (Y : ZApart z TI TO i1 i2 fp1 fp2)
    (D1 : Draws prog w A.in1 i1 fp1 n1 P1 St1) (D2 : Draws prog w A.in1 i2 fp2 n2 P2 St2) :
    WalksT prog w A z (z :: TI :: TO :: (fp1 ++ fp2)) [z, TO, i1, i2] (min n1 n2) (fun i vals => ∃ x y, P1 i x ∧ P2 i y ∧ vals = #[x, y])
      (fun i h => IsZip h z TI TO .none ∧ IsPair h TI (.ref i1) (.ref i2) ∧ (∃ a b, IsPair h TO a b) ∧ St1 i h ∧ St2 i h)
      (fun i T h => IsZip h z TI TO (rawInt T) ∧ IsPair h TI (.ref i1) (.ref i2) ∧ (∃ a b, IsPair h TO a b) ∧ St1 (i + 1) h ∧ St2 (i + 1) h ∧ T ≠ z ∧ T ≠ TO ∧ T ≠ i1 ∧ T ≠ i2) where
  sub := fun c hc => by
    simp only [List.mem_cons, List.not_mem_nil, or_false] at hc
    simp only [List.mem_cons, List.mem_append]
    rcases hc with rfl | rfl | rfl | rfl
    · simp
    · simp
    · exact .inr (.inr (.inr (.inl Y.m1)))
    · exact .inr (.inr (.inr (.inr Y.m2)))
  frame := fun i h h' hst hk => by
    obtain ⟨hz, hTI, ⟨a, b, hTO⟩, h1, h2⟩ := hst
    refine ⟨hk z (by simp) _ hz, hk TI (by simp) _ hTI, ⟨a, b, hk TO (by simp) _ hTO⟩, D1.frame _ _ _ h1 fun b hb o e => hk b ?_ o e, D2.frame _ _ _ h2 fun b hb o e => hk b ?_ o e⟩
    · simp only [List.mem_cons, List.mem_append]; exact .inr (.inr (.inr (.inl hb)))
    · simp only [List.mem_cons, List.mem_append]; exact .inr (.inr (.inr (.inr hb)))
  item := fun i s Q E hi hst hQ => by
    obtain ⟨hz, hTI, ⟨a, b, hTO⟩, h1, h2⟩ := hst
    refine zip_pyNextD Y D1 D2 hz hTI hTO h1 h2 (Nat.lt_of_lt_of_le hi (Nat.min_le_left ..)) (Nat.lt_of_lt_of_le hi (Nat.min_le_right ..)) fun x y h' tk px py a1 a2 a3 a4 a5 a6 hk => ?_
    have lt : ∀ {c o}, s.heap.get? c = some o → s.heap.objs.size ≠ c := fun e => Nat.ne_of_gt (Heap.lt_size e)
    exact hQ s.heap.objs.size #[x, y] h' tk ⟨_, _, px, py, rfl⟩ (Nat.le_refl _) ⟨_, a5, rfl, _, rfl⟩
      ⟨a1, hk _ _ Y.TIz Y.TITO Y.TI1 Y.TI2 hTI, ⟨_, _, a2⟩, a3, a4, lt hz, lt hTO, (by obtain ⟨_, e⟩ := D1.live _ _ h1; exact lt e), (by obtain ⟨_, e⟩ := D2.live _ _ h2; exact lt e)⟩
      fun c o hc e => hk c o (fun x => hc (by simp [x])) (fun x => hc (by simp [x])) (fun x => hc (by simp [x])) (fun x => hc (by simp [x])) e
  go := fun elts k pos i T s Q E hm hQ => by
    obtain ⟨hz, hTI, ⟨a, b, hTO⟩, h1, h2, _⟩ := hm
    refine wpAny_letOwnedTupleGo_zip hz fun h' hz' hs' => hQ h' ⟨hz', hs'.extBut _ _ Y.TIz hTI, ⟨a, b, hs'.extBut _ _ Y.TOz hTO⟩, D1.frame _ _ _ h1 fun b hb o e => hs'.extBut _ _ (fun q => Y.z1 (q ▸ hb)) e,
      D2.frame _ _ _ h2 fun b hb o e => hs'.extBut _ _ (fun q => Y.z2 (q ▸ hb)) e⟩ fun c o hc e => hs'.extBut _ _ (fun x => hc (by simp [x])) e
  apart := fun i T h hm hT => by
    obtain ⟨_, _, _, _, _, a1, a2, a3, a4⟩ := hm
    simp only [List.mem_cons, List.not_mem_nil, or_false] at hT
    rcases hT with e | e | e | e
    · exact a1 e
    · exact a2 e
    · exact a3 e
    · exact a4 e
  done := fun s Q E hst hQ => by
    obtain ⟨hz, hTI, ⟨a, b, hTO⟩, h1, h2⟩ := hst
    refine zip_pyEndD Y D1 D2 hz hTI hTO h1 h2 ?_ fun h' tk hk => hQ h' tk fun c o hc e => hk c o (fun x => hc (by simp [x])) (fun x => hc (by simp [x])) (fun x => hc (by simp [x])) (fun x => hc (by simp [x])) e
    omega
  self := fun i s Q E hst hQ => wpAny_pyIter_zip hst.1 hQ
end Mine
-- part ZipS
namespace Mine
abbrev zsH1 (h : Heap) (l1 : Addr) : Heap := h.push { cls := .type "list_iterator", data := .fields #[.ref l1, .int 0 0] }
abbrev zsH2 (h : Heap) (l1 : Addr) (x : Str) (t : Tok) : Heap := (zsH1 h l1).push { cls := .type (strIterType x), data := .fields #[.str x t, .int 0 0] }
abbrev zsH3 (h : Heap) (l1 : Addr) (x : Str) (t : Tok) : Heap := (zsH2 h l1 x t).push { cls := .type "tuple", data := .seq #[.ref h.objs.size, .ref (zsH1 h l1).objs.size] }
abbrev zsH4 (h : Heap) (l1 : Addr) (x : Str) (t : Tok) : Heap := (zsH3 h l1 x t).push { cls := .type "tuple", data := .seq #[.none, .none] }
abbrev zsH5 (h : Heap) (l1 : Addr) (x : Str) (t : Tok) : Heap := (zsH4 h l1 x t).push { cls := .type "zip", data := .fields #[.none, .bool false, .bool false, .ref (zsH2 h l1 x t).objs.size, .ref (zsH3 h l1 x t).objs.size] }
theorem meets_zip_newS (l1 : Addr) (xs : Array Value) (x : Str) (t : Tok) :
    Meets (Builtin.«zip.__new__» ⟨[.type "zip", .ref l1, .str x t], []⟩) (fun _ R s => s.heap.IsList l1 xs ∧
      R (.ok (.ret (.ref (zsH4 s.heap l1 x t).objs.size))) { s with heap := zsH5 s.heap l1 x t }) :=
  .of_wp fun prog w A R s h => by
    obtain ⟨hp, g, d, tk, os⟩ := s; obtain ⟨hl1, h⟩ := h
    have hsub := sub_zip
    have hL1 : Heap.IsList (Shared.heap ⟨hp, g, d, tk, os⟩) l1 xs := hl1
    wp_walk using wpAny_pyIter_list hL1, wpAny_pyIter_strU
    exact ⟨_, rfl, h⟩
section
variable {prog : Program} {w : World} {A : Around} {E : Value → Shared → Prop} {s : Shared}
theorem call_zip_S {l1 : Addr} {xs : Array Value} {x : Str} {t : Tok} {Q : Value → Shared → Prop} (hl1 : s.heap.IsList l1 xs)
    (h : ∀ h', IsZip h' (s.heap.objs.size + 4) (s.heap.objs.size + 2) (s.heap.objs.size + 3) .none → IsPair h' (s.heap.objs.size + 2) (.ref s.heap.objs.size) (.ref (s.heap.objs.size + 1)) →
      IsPair h' (s.heap.objs.size + 3) .none .none → h'.IsListIter s.heap.objs.size l1 0 → h'.IsStrIter (s.heap.objs.size + 1) (strIterType x) x t 0 → h'.objs.size = s.heap.objs.size + 5 →
      (∀ c o, s.heap.get? c = some o → h'.get? c = some o) → Q (.ref (s.heap.objs.size + 4)) { s with heap := h' }) :
    wpAny (model prog w) A (call (.type "zip") [.ref l1, .str x t]) Q E s := by
  refine callType_new F.called_zip (by decide) (F.typeCall_zip_2 _ _) (F.newCall_zip_2 _ _) (fun obj => F.args_object_init_3 obj _ _) F.entry_zip_new
    (meets_zip_newS l1 xs x t) ⟨hl1, ?_⟩
  have z1 : (zsH1 s.heap l1).objs.size = s.heap.objs.size + 1 := Heap.size_push ..
  have z2 : (zsH2 s.heap l1 x t).objs.size = s.heap.objs.size + 2 := by rw [Heap.size_push, z1]
  have z3 : (zsH3 s.heap l1 x t).objs.size = s.heap.objs.size + 3 := by rw [Heap.size_push, z2]
  have z4 : (zsH4 s.heap l1 x t).objs.size = s.heap.objs.size + 4 := by rw [Heap.size_push, z3]
  have z5 : (zsH5 s.heap l1 x t).objs.size = s.heap.objs.size + 5 := by rw [Heap.size_push, z4]
  have g5 : (zsH5 s.heap l1 x t).get? (zsH4 s.heap l1 x t).objs.size = some _ := Heap.get?_push_size _ rfl
  have g4 : (zsH5 s.heap l1 x t).get? (zsH3 s.heap l1 x t).objs.size = some _ := Heap.get?_push_of_some _ (Heap.get?_push_size _ rfl)
  have g3 : (zsH5 s.heap l1 x t).get? (zsH2 s.heap l1 x t).objs.size = some _ := Heap.get?_push_of_some _ (Heap.get?_push_of_some _ (Heap.get?_push_size _ rfl))
  have g2 : (zsH5 s.heap l1 x t).get? (zsH1 s.heap l1).objs.size = some _ := Heap.get?_push_of_some _ (Heap.get?_push_of_some _ (Heap.get?_push_of_some _ (Heap.get?_push_size _ rfl)))
  have g1 : (zsH5 s.heap l1 x t).get? s.heap.objs.size = some _ := Heap.get?_push_of_some _ (Heap.get?_push_of_some _ (Heap.get?_push_of_some _ (Heap.get?_push_of_some _ (Heap.get?_push_size _ rfl))))
  show _ ∧ _
  rw [z2, z3, z4] at g5
  rw [z1, z2] at g3
  rw [z3] at g4
  rw [z1] at g2
  rw [z4]
  exact ⟨⟨_, g5, rfl⟩, h _ g5 g3 g4 ⟨_, g1, rfl, rfl⟩ ⟨_, g2, rfl, rfl⟩ z5 fun c o x =>
    Heap.get?_push_of_some _ (Heap.get?_push_of_some _ (Heap.get?_push_of_some _ (Heap.get?_push_of_some _ (Heap.get?_push_of_some _ x))))⟩
end
end Mine
-- part CompZ
namespace Mine
section
variable {prog : Program} {w : World} {A : Around} {E : Value → Shared → Prop} {s : Shared} {env : Env}
theorem compLoop_pairT {elt iter : Expr} {ifs : List Expr} {elts : List Expr} {x1} {tp : Pos} {scope : Scope} {pos : Pos} {it acc : Value} {env : Env} {R : Result → Shared → Prop} (I : Nat → Shared → Prop)
    (turn : ∀ n s, I n s → wpAny (model prog w) A (pyNext it) (fun r s₁ => match r with
      | none => R (.ok .next) s₁
      | some v => wpAny (model prog w) A (letOwnedTupleGo (.Tuple elts x1 tp) it v) (fun _ s₁' => wpAny (model prog w) A (assign (.Tuple elts x1 tp) env v) (fun _ s₂ =>
          wpAny (model prog w) A (forIn ifs true fun c r => if r = true then do let ok ← isTrue c env (eval c env); pure (ForInStep.yield ok) else pure (ForInStep.yield r)) (fun ok s₃ =>
            if ok = true then wpAny (model prog w) A (eval elt env) (fun x s₄ =>
              wpAny (model prog w) A (call (.builtin "list.append") [acc, x]) (fun _ s₅ => ∃ m, m < n ∧ I m s₅) (notedBy (model prog w) A env fun e s' => R (.error e) s') s₄) (notedBy (model prog w) A env fun e s' => R (.error e) s') s₃
            else ∃ m, m < n ∧ I m s₃) (notedBy (model prog w) A env fun e s' => R (.error e) s') s₂)
          (notedBy (model prog w) A env fun e s' => R (.error e) s') s₁') (notedBy (model prog w) A env fun e s' => R (.error e) s') s₁) (notedBy (model prog w) A env fun e s' => R (.error e) s') s)
    (n : Nat) (h : I n s) : codeAny (model prog w) A (.compLoop (.ListComp elt [⟨.Tuple elts x1 tp, iter, ifs, 0⟩] scope pos) 0 it acc env) R s := by
  refine codeAny_loop rfl I (fun n s hI => ?_) n h
  show wpAny _ A ((compTurn (.ListComp elt [⟨.Tuple elts x1 tp, iter, ifs, 0⟩] scope pos) 0 it acc env).onRaise (fun x => do noteFrame x env; theTreesLotGoes x)) _ _ s
  refine wpAny_noted ?_
  rw [compTurn_list]
  refine wpAny_bind (wpAny_standAt (wpAny_bind (wpAny_mono (turn n s hI) (fun r s₁ h₁ => ?_) fun _ _ h' => h')))
  cases r with
  | none => exact wpAny_pure h₁
  | some v =>
    refine wpAny_bind (wpAny_mono h₁ (fun _ s₁' h₁' => ?_) fun _ _ h' => h')
    refine wpAny_bind (wpAny_mono h₁' (fun _ s₂ h₂ => wpAny_bind (wpAny_mono h₂ (fun ok s₃ h₃ => ?_) fun _ _ h' => h')) fun _ _ h' => h')
    cases ok with
    | false => exact wpAny_pure ⟨rfl, h₃⟩
    | true =>
      exact wpAny_bind (wpAny_bind (wpAny_mono h₃ (fun x s₄ h₄ => wpAny_bind (wpAny_mono h₄ (fun _ s₅ h₅ => wpAny_pure (wpAny_pure ⟨rfl, h₅⟩)) fun _ _ h' => h')) fun _ _ h' => h'))
abbrev testsOf (ifs : List Expr) (env : Env) : Sem Bool := forIn ifs true fun c r => if r = true then do let ok ← isTrue c env (eval c env); pure (ForInStep.yield ok) else pure (ForInStep.yield r)
/-- all but what may change stays -/
def KeepsBut (ch : List Addr) (s s' : Shared) : Prop := ∃ h' tk, s' = { s with heap := h', toks := tk } ∧ ∀ b o, b ∉ ch → s.heap.get? b = some o → h'.get? b = some o
structure ZTurn (prog : Program) (w : World) (A : Around) (env : Env) (elt : Expr) (x x₂ : Str) (ifs : List Expr) (scope : Scope) (cl : List (Str × Addr)) (ch wr : List Addr) (n : Nat) (Pt : Nat → Array Value → Prop) (J : Nat → List Value → Heap → Prop) (s₁ : Shared) : Prop where
  go : ∀ i v₁ v₂ ys C m₂ s₂ E', i < n → Pt i #[v₁, v₂] → ys.length ≤ i → J i ys s₂.heap → s₁.heap.objs.size ≤ C → s₂.heap.Ns C m₂ → m₂ x = some v₁ → m₂ x₂ = some v₂ → (∃ h' tk, s₂ = { s₁ with heap := h', toks := tk }) →
    (∀ b o, b ∉ wr → b ∉ ch → s₁.heap.get? b = some o → s₂.heap.get? b = some o) →
    wpAny (model prog w) A (testsOf ifs (compEnvC scope cl C env)) (fun ok s₃ => Keeps s₂ s₃ ∧ if ok = true then wpAny (model prog w) A (eval elt (compEnvC scope cl C env)) (fun y s₄ => KeepsBut ch s₃ s₄ ∧ J (i + 1) (ys ++ [y]) s₄.heap) E' s₃ else J (i + 1) ys s₃.heap) E' s₂
/-- what is asked where the source stands -/
def ZSrc (prog : Program) (w : World) (A : Around) (env : Env) (elt : Expr) (x x₂ : Str) (ifs : List Expr) (scope : Scope) (cl : List (Str × Addr)) (Q : Value → Shared → Prop) (xv : Value) (s₁ : Shared) : Prop :=
  ∃ I fp wr n Pt St Mid ch J, xv = .ref I ∧ A.handled = none ∧ WalksT prog w A I fp wr n Pt St Mid ∧ n ≤ sizeLine ∧ (∀ i vals, Pt i vals → ∃ v₁ v₂, vals = #[v₁, v₂]) ∧ St 0 s₁.heap ∧ (∀ b ∈ fp, b < s₁.heap.objs.size) ∧
    (∀ b ∈ ch, b < s₁.heap.objs.size ∧ b ∉ fp) ∧ (∀ i ys h h', J i ys h → (∀ b ∈ ch, ∀ o, h.get? b = some o → h'.get? b = some o) → J i ys h') ∧ J 0 [] s₁.heap ∧
    ZTurn prog w A env elt x x₂ ifs scope cl ch wr n Pt J s₁ ∧
    ∀ D ys h' tk, J n ys h' → (∀ b o, b ∉ wr → b ∉ ch → s₁.heap.get? b = some o → h'.get? b = some o) → h'.get? D = some (LCg.lst ys) → s₁.heap.objs.size ≤ D → Q (.ref D) { s₁ with heap := h', toks := tk }
theorem block_Z {elt iter : Expr} {ifs : List Expr} {x x₂ : Str} {px px₂ tp : Pos} {tk} {scope : Scope} {cl : List (Str × Addr)} {pos : Pos} {s₂ : Shared} {I : Addr} {fp wr ch : List Addr} {n : Nat} {Pt : Nat → Array Value → Prop} {St : Nat → Heap → Prop} {Mid : Nat → Addr → Heap → Prop} {J : Nat → List Value → Heap → Prop}
    {RR : Value → Addr → Result → Shared → Prop}
    (W : WalksT prog w A I fp wr n Pt St Mid) (hsz : n ≤ sizeLine) (hpair : ∀ i vals, Pt i vals → ∃ v₁ v₂, vals = #[v₁, v₂]) (hst : St 0 s₂.heap) (hfp : ∀ b ∈ fp, b < s₂.heap.objs.size)
    (hch : ∀ b ∈ ch, b < s₂.heap.objs.size ∧ b ∉ fp) (hJ : ∀ i ys h h', J i ys h → (∀ b ∈ ch, ∀ o, h.get? b = some o → h'.get? b = some o) → J i ys h') (hJ0 : J 0 [] s₂.heap)
    (hcell : ∀ y ∈ scope.names, y.2 ≠ .cell) (hkind : scope.kind = .function) (hx : scope.names.lookup x = some .local) (hx₂ : scope.names.lookup x₂ = some .local) (hxx : x ≠ x₂) (hh : A.handled = none)
    (T : ZTurn prog w A env elt x x₂ ifs scope cl ch wr n Pt J s₂)
    (hRR : ∀ D C h tk m' ys, J n ys h → (∀ b o, b ∉ wr → b ∉ ch → s₂.heap.get? b = some o → h.get? b = some o) → h.get? D = some (LCg.lst ys) → s₂.heap.objs.size ≤ D → s₂.heap.objs.size ≤ C → C ≠ D → h.Ns C m' → RR (.ref D) C (.ok .next) { s₂ with heap := h, toks := tk }) :
    wpAny (model prog w) A (newList []) (fun acc s₃ => wpAny (model prog w) A (newFunctionEnv scope env.globals cl [] env.qual none .none (some env)) (fun cenv s₄ =>
      codeAny (model prog w) A (.compStart (.ListComp elt [⟨.Tuple [.Name x px, .Name x₂ px₂] tk tp, iter, ifs, 0⟩] scope pos) 0 (.ref I) acc { cenv with scope := relabel scope env }) (RR acc cenv.locals) s₄) E s₃) E s₂ := by
  refine wpAny_newObj_type (wpAny_newFunctionEnv hcell (by intro y hy; simp at hy) (fun h₁ hns₁ hsb₁ => ?_) hkind)
  dsimp only at hns₁ hsb₁ ⊢
  generalize hH2 : s₂.heap.push { cls := .type "list", dict := none, data := .seq ([] : List Value).toArray } = H2 at hns₁ hsb₁ ⊢
  have hC : H2.objs.size = s₂.heap.objs.size + 1 := by rw [← hH2, Heap.size_push]
  have hDC : s₂.heap.objs.size ≠ H2.objs.size := by rw [hC]; exact Nat.ne_of_lt (Nat.lt_succ_self _)
  have below : ∀ b, b < s₂.heap.objs.size → b ≠ H2.objs.size ∧ b ≠ s₂.heap.objs.size := fun b hb => ⟨by rw [hC]; exact Nat.ne_of_lt (Nat.lt_succ_of_lt hb), Nat.ne_of_lt hb⟩
  have hDf : s₂.heap.objs.size ∉ fp := fun hm => Nat.lt_irrefl _ (hfp _ hm)
  have hCf : H2.objs.size ∉ fp := fun hm => by have := hfp _ hm; rw [hC] at this; exact Nat.lt_irrefl _ (Nat.lt_of_succ_lt this)
  have hDw : s₂.heap.objs.size ∉ wr := fun hm => hDf (W.sub _ hm)
  have hCw : H2.objs.size ∉ wr := fun hm => hCf (W.sub _ hm)
  have hDc : s₂.heap.objs.size ∉ ch := fun hm => Nat.lt_irrefl _ (hch _ hm).1
  have hCc : H2.objs.size ∉ ch := fun hm => by have := (hch _ hm).1; rw [hC] at this; exact Nat.lt_irrefl _ (Nat.lt_of_succ_lt this)
  have old : ∀ b o, s₂.heap.get? b = some o → h₁.get? b = some o := fun b o e => hsb₁.extBut b o (below b (Heap.lt_size e)).1 (Heap.get?_push_of_some _ (hH2 ▸ Heap.get?_push_of_some _ e))
  have hacc : h₁.get? s₂.heap.objs.size = some (LCg.lst []) := hsb₁.extBut _ _ hDC (Heap.get?_push_of_some _ (hH2 ▸ Heap.get?_push_size _ rfl))
  have hst₁ : St 0 h₁ := W.frame _ _ _ hst fun b _ o e => old b o e
  have loop : ∀ s₃ : Shared, s₃ = { s₂ with heap := h₁, toks := s₂.toks + ([] : List (Str × Value)).length } →
      codeAny (model prog w) A (.compLoop (.ListComp elt [⟨.Tuple [.Name x px, .Name x₂ px₂] tk tp, iter, ifs, 0⟩] scope pos) 0 (.ref I) (.ref s₂.heap.objs.size) (compEnvC scope cl H2.objs.size env))
        (RR (.ref s₂.heap.objs.size) H2.objs.size) s₃ := by
    rintro s₃ rfl
    refine compLoop_pairT
      (fun k s' => ∃ h' tk i ys m', s' = { s₂ with heap := h', toks := tk } ∧ i ≤ n ∧ k = n + 1 - i ∧ ys.length ≤ i ∧ St i h' ∧ h'.Ns H2.objs.size m' ∧ h'.get? s₂.heap.objs.size = some (LCg.lst ys) ∧ J i ys h' ∧
        (∀ b o, b ∉ wr → b ∉ ch → s₂.heap.get? b = some o → h'.get? b = some o)) ?_ (n + 1)
      ⟨h₁, _, 0, [], _, rfl, Nat.zero_le _, rfl, Nat.le_refl _, hst₁, hns₁, hacc, hJ _ _ _ _ hJ0 fun b _ o e => old b o e, fun b o _ _ e => old b o e⟩
    rintro k s' ⟨h', tk, i, ys, m', rfl, hi, rfl, hyl, hst', hn', hD', hJ', hk'⟩
    by_cases hlt : i < n
    · refine W.item i _ _ _ hlt hst' fun Tt vals h₂ tk₂ hPv hTle hTup hMid hk₂ => ?_
      have hTw : Tt ∉ wr := W.apart _ _ _ hMid
      refine W.go _ _ _ i Tt ⟨h₂, s₂.gens, s₂.drawn, tk₂, s₂.os⟩ _ _ hMid fun h₃ hst₃ hk₃ => ?_
      replace hk₃ : ∀ b o, b ∉ wr → h₂.get? b = some o → h₃.get? b = some o := hk₃
      replace hk₂ : ∀ b o, b ∉ wr → h'.get? b = some o → h₂.get? b = some o := hk₂
      obtain ⟨v₁, v₂, rfl⟩ := hpair _ _ hPv
      have ht : IsTup h₃ Tt #[v₁, v₂] := by
        obtain ⟨o, e, hc, nn, hd⟩ := hTup
        exact ⟨o, hk₃ _ _ hTw e, hc, nn, hd⟩
      refine assign_Tuple_tuple (s := ⟨h₃, s₂.gens, s₂.drawn, tk₂, s₂.os⟩) hh ht rfl rfl fun h₅ he => ?_
      have he' : ∀ b o, h₃.get? b = some o → h₅.get? b = some o := fun b o e => he b o (Nat.ne_of_lt (Heap.lt_size e)) e
      have nsC : ∃ m, h₅.Ns H2.objs.size m := ⟨_, hn'.at' fun o e => he' _ o (hk₃ _ o hCw (hk₂ _ o hCw e))⟩
      obtain ⟨m5, hn5⟩ := nsC
      refine assignInOrder_cons (wpAny_assign_Name (wpAny_storeName_local (lookup_relabel_local hx) hn5 (fun h₆ hn₆ hs₆ => ?_) (by simp [compEnvC, relabel, hkind])))
      refine assignInOrder_cons (wpAny_assign_Name (wpAny_storeName_local (lookup_relabel_local hx₂) hn₆ (fun h₇ hn₇ hs₇ => ?_) (by simp [compEnvC, relabel, hkind])))
      refine assignInOrder_nil ?_
      have old3 : ∀ b o, b ≠ H2.objs.size → h₃.get? b = some o → h₇.get? b = some o := fun b o hb e => hs₇.extBut b o hb (hs₆.extBut b o hb (he' b o e))
      have hst₇ : St (i + 1) h₇ := W.frame _ _ _ hst₃ fun b hb o e => old3 b o (fun q => hCf (q ▸ hb)) e
      have up : ∀ b o, b ∉ wr → b ≠ H2.objs.size → h'.get? b = some o → h₇.get? b = some o := fun b o hb hb2 e => old3 b o hb2 (hk₃ _ _ hb (hk₂ _ _ hb e))
      have hJ₇ : J i ys h₇ := hJ _ _ _ _ hJ' fun b hb o e => up b o (fun q => (hch b hb).2 (W.sub _ q)) (fun q => hCc (q ▸ hb)) e
      have hD₇ := up _ _ hDw hDC hD'
      have hk₇ : ∀ b o, b ∉ wr → b ∉ ch → s₂.heap.get? b = some o → h₇.get? b = some o := fun b o h1 h2 e => up b o h1 (below b (Heap.lt_size e)).1 (hk' b o h1 h2 e)
      refine wpAny_mono (T.go i v₁ v₂ ys H2.objs.size _ ⟨h₇, s₂.gens, s₂.drawn, _, s₂.os⟩ _ hlt hPv hyl hJ₇ (by rw [hC]; exact Nat.le_succ _) hn₇ (by simp [hxx]) (by simp) ⟨_, _, rfl⟩ hk₇) (fun ok s₈ h₈ => ?_) fun _ _ e => e
      obtain ⟨⟨h₈', tk₈, rfl, k₈⟩, z⟩ := h₈
      replace k₈ : ∀ b o, h₇.get? b = some o → h₈'.get? b = some o := k₈
      have hst₈ : St (i + 1) h₈' := W.frame _ _ _ hst₇ fun b _ o e => k₈ b o e
      cases ok with
      | false =>
        simp only [Bool.false_eq_true, if_false] at z ⊢
        exact ⟨n + 1 - (i + 1), by omega, h₈', tk₈, i + 1, ys, _, rfl, hlt, rfl, Nat.le_succ_of_le hyl, hst₈, hn₇.at' fun o e => k₈ _ o e, k₈ _ _ hD₇, z, fun b o h1 h2 e => k₈ _ _ (hk₇ b o h1 h2 e)⟩
      | true =>
        simp only [if_true] at z ⊢
        refine wpAny_mono z (fun y s₉ h₉ => ?_) fun _ _ e => e
        obtain ⟨⟨h₉', tk₉, rfl, k₉⟩, hJ₉⟩ := h₉
        replace k₉ : ∀ b o, b ∉ ch → h₈'.get? b = some o → h₉'.get? b = some o := k₉
        replace hJ₉ : J (i + 1) (ys ++ [y]) h₉' := hJ₉
        have hst₉ : St (i + 1) h₉' := W.frame _ _ _ hst₈ fun b hb o e => k₉ b o (fun q => (hch b q).2 hb) e
        have hD₉ : h₉'.get? s₂.heap.objs.size = some (LCg.lst ys) := k₉ _ _ hDc (k₈ _ _ hD₇)
        refine append_at (s := ⟨h₉', s₂.gens, s₂.drawn, tk₉, s₂.os⟩) (hsz := by show ys.toArray.size ≤ sizeLine; rw [List.size_toArray]; omega) hD₉ fun h₁₀ hs₁₀ hD₁₀ => ?_
        refine ⟨n + 1 - (i + 1), by omega, h₁₀, tk₉, i + 1, ys ++ [y], _, rfl, hlt, rfl, by rw [List.length_append, List.length_singleton]; omega, W.frame _ _ _ hst₉ fun b hb o e => hs₁₀.extBut b o (fun q => hDf (q ▸ hb)) e,
          ((hn₇.at' fun o e => k₉ _ o hCc (k₈ _ o e)).sameBut hs₁₀ (Ne.symm hDC)), hD₁₀.trans (congrArg some (LCg.lst_snoc ys y)), hJ _ _ _ _ hJ₉ fun b hb o e => hs₁₀.extBut b o (fun q => hDc (q ▸ hb)) e, fun b o h1 h2 e => ?_⟩
        exact hs₁₀.extBut _ _ (below b (Heap.lt_size e)).2 (k₉ _ _ h2 (k₈ _ _ (hk₇ b o h1 h2 e)))
    · obtain rfl : i = n := Nat.le_antisymm hi (Nat.not_lt.mp hlt)
      refine W.done _ _ _ hst' fun h₂ tk₂ hk₂ => ?_
      replace hk₂ : ∀ b o, b ∉ wr → h'.get? b = some o → h₂.get? b = some o := hk₂
      exact hRR _ _ h₂ tk₂ _ ys (hJ _ _ _ _ hJ' fun b hb o e => hk₂ b o (fun q => (hch b hb).2 (W.sub _ q)) e) (fun b o h1 h2 e => hk₂ _ _ h1 (hk' b o h1 h2 e)) (hk₂ _ _ hDw hD') (Nat.le_refl _) (by rw [hC]; exact Nat.le_succ _) (Ne.symm hDC) (hn'.at' fun o e => hk₂ _ o hCw e)
  exact codeAny_compStart_list (loop _ rfl) (W.self 0 _ _ _ hst₁ (loop _ rfl))
theorem ListComp_Z {elt iter : Expr} {ifs : List Expr} {x x₂ : Str} {px px₂ tp : Pos} {tk} {scope : Scope} {cl : List (Str × Addr)} {pos : Pos} {Q : Value → Shared → Prop}
    (hclos : closureFor scope env = pure cl) (hcell : ∀ y ∈ scope.names, y.2 ≠ .cell) (hkind : scope.kind = .function)
    (hnames : ∀ y ∈ scope.names, y.2 = .local → scope.names.lookup y.1 = some .local) (hx : scope.names.lookup x = some .local) (hx₂ : scope.names.lookup x₂ = some .local) (hxx : x ≠ x₂)
    (h : wpAny (model prog w) A (eval iter env) (fun xv s₁ => Hold (ZSrc prog w A env elt x x₂ ifs scope cl Q xv s₁)) E s)
    (hs : ∀ x, foldedSetIterable iter env x = pure x := by intro _; rfl) :
    wpAny (model prog w) A (eval (.ListComp elt [⟨.Tuple [.Name x px, .Name x₂ px₂] tk tp, iter, ifs, 0⟩] scope pos) env) Q E s := by
  rw [eval_ListComp]
  refine wpAny_comprehension_free (use := none) rfl hs hclos hkind hnames (wpAny_mono h (fun xv s₁ h₁ => ?_) fun _ _ e => e)
  obtain ⟨I, fp, wr, n, Pt, St, Mid, ch, J, rfl, hh, W, hsz, hpair, hst, hfp, hch, hJ, hJ0, T, fin⟩ := h₁.out
  refine W.self 0 _ _ _ hst ?_
  refine block_Z W hsz hpair hst hfp hch hJ hJ0 hcell hkind hx hx₂ hxx hh T ?_
  intro D C h tk m' ys hJn hk hD hDs hCs hCD hn
  refine ⟨m', hn, fun h'' hs'' => fin D ys h'' tk (hJ _ _ _ _ hJn fun b hb o e => hs''.extBut b o (fun q => Nat.lt_irrefl _ (Nat.lt_of_lt_of_le (q ▸ (hch b hb).1) hCs)) e) (fun b o h1 h2 e => hs''.extBut b o (fun q => Nat.lt_irrefl _ (Nat.lt_of_lt_of_le (q ▸ Heap.lt_size e) hCs)) (hk b o h1 h2 e)) (hs''.extBut _ _ (Ne.symm hCD) hD) hDs⟩
/-- the same, where the list is given a name -/
def ZSrcA (prog : Program) (w : World) (A : Around) (env : Env) (elt : Expr) (x x₂ y : Str) (ifs : List Expr) (scope : Scope) (cl : List (Str × Addr)) (Q : Flow → Shared → Prop) (xv : Value) (s₁ : Shared) : Prop :=
  env.locals < s₁.heap.objs.size ∧ ZSrc prog w A env elt x x₂ ifs scope cl (fun v s' => ∃ m, s'.heap.Ns env.locals m ∧ ∀ C h'' tk', s₁.heap.objs.size ≤ C → v ≠ .ref C → h''.Ns env.locals (fun z => if z = y then some v else m z) → (∀ b o, b ≠ env.locals → b ≠ C → s'.heap.get? b = some o → h''.get? b = some o) → Q .next { s' with heap := h'', toks := tk' }) xv s₁
theorem Assign_ListComp_Z {elt iter : Expr} {ifs : List Expr} {x x₂ y : Str} {px px₂ tp py : Pos} {tk} {scope : Scope} {cl : List (Str × Addr)} {pos spos : Pos} {Q : Flow → Shared → Prop}
    (hsw : swapsWith (.ListComp elt [⟨.Tuple [.Name x px, .Name x₂ px₂] tk tp, iter, ifs, 0⟩] scope pos) (some (.Name y py)) spos.line env = pure true)
    (hclos : closureFor scope env = pure cl) (hcell : ∀ z ∈ scope.names, z.2 ≠ .cell) (hkind : scope.kind = .function)
    (hnames : ∀ z ∈ scope.names, z.2 = .local → scope.names.lookup z.1 = some .local) (hx : scope.names.lookup x = some .local) (hx₂ : scope.names.lookup x₂ = some .local) (hxx : x ≠ x₂)
    (hy : env.kindOf y = some .local) (hp : (env.scope.kind == .class || (env.scope.kind == .module && env.locals != env.globals)) = false)
    (h : wpAny (model prog w) A (eval iter env) (fun xv s₁ => Hold (ZSrcA prog w A env elt x x₂ y ifs scope cl Q xv s₁)) E s)
    (hs : ∀ x, foldedSetIterable iter env x = pure x := by intro _; rfl) :
    wpAny (model prog w) A (exec (.Assign [.Name y py] (.ListComp elt [⟨.Tuple [.Name x px, .Name x₂ px₂] tk tp, iter, ifs, 0⟩] scope pos) spos) env) Q E s := by
  rw [exec_Assign_Name_used _ _ _ _ hsw]
  refine wpAny_bind (wpAny_standAt (wpAny_bind ?_))
  show wpAny _ A (do let _ ← comprehension (.ListComp elt [⟨.Tuple [.Name x px, .Name x₂ px₂] tk tp, iter, ifs, 0⟩] scope pos) scope env _ (newList []) false (eval iter env) (some (assign (.Name y py) env))) _ _ s
  refine wpAny_bind (wpAny_mono (wpAny_comprehension_free (use := some (assign (.Name y py) env)) (Q := fun _ s' => Q .next s') rfl hs hclos hkind hnames
    (wpAny_mono h (fun xv s₁ h₁ => ?_) fun _ _ e => e)) (fun _ s' hq => wpAny_pure (wpAny_pure hq)) fun _ _ e => e)
  obtain ⟨hlt, I, fp, wr, n, Pt, St, Mid, ch, J, rfl, hh, W, hsz, hpair, hst, hfp, hch, hJ, hJ0, T, fin⟩ := h₁.out
  refine W.self 0 _ _ _ hst ?_
  refine block_Z W hsz hpair hst hfp hch hJ hJ0 hcell hkind hx hx₂ hxx hh T ?_
  intro D C h tk m' ys hJn hk hD hDs hCs hCD hn
  show wpAny _ A (assign (.Name y py) env (.ref D)) _ _ _
  obtain ⟨m, hm, fin⟩ := fin D ys h tk hJn hk hD hDs
  have hCL : C ≠ env.locals := fun q => Nat.lt_irrefl _ (Nat.lt_of_lt_of_le (q ▸ hlt) hCs)
  refine wpAny_assign_Name (wpAny_storeName_local hy hm (fun h₂ hn₂ hs₂ => ?_) hp)
  refine ⟨m', hn.sameBut hs₂ hCL, fun h'' hs'' => fin C h'' _ hCs (fun q => hCD (by cases q; rfl)) (hn₂.sameBut hs'' (Ne.symm hCL)) fun b o h1 h2 e => hs''.extBut _ _ h2 (hs₂.extBut _ _ h1 e)⟩
end
end Mine
-- part Rules4
namespace Mine
section
variable {prog : Program} {w : World} {A : Around} {E : Value → Shared → Prop} {s : Shared} {h₀ : Heap} {L D : Addr} {m : Str → Option Value} {news news' : List (Addr × Obj)} {Q : Value → Shared → Prop}
theorem slice_T {value slice : Expr} {l : Addr} {items : Array Value} {vl vu : Value} {lo hi : Option Int}
    (F : Fr h₀ L s.heap m) (N : News h₀ L s.heap news) (hl : s.heap.IsList l items) (pl : IsPart vl lo) (pu : IsPart vu hi)
    (h : ∀ h', Fr h₀ L h' m → News h₀ L h' ((s.heap.objs.size + 1, { cls := .type "list", data := .seq (slicePick items lo hi none) }) :: news) → Q (.ref (s.heap.objs.size + 1)) { s with heap := h' })
    (hs : subscripted slice false (.ref l) (.ref s.heap.objs.size) = operate [.ref s.heap.objs.size, .ref l] (getItem (.ref l) (.ref s.heap.objs.size)))
    (hsz : items.size ≤ sizeLine) :
    wpAny (model prog w) A (subscriptTail value slice (.ref l) (.ref s.heap.objs.size)) Q E { s with heap := s.heap.push { cls := .type "slice", data := .fields #[vl, vu, .none] } } := by
  refine tail_any (Heap.IsList.typeIs (s := { s with heap := s.heap.push { cls := .type "slice", data := .fields #[vl, vu, .none] } }) (hl.push _)) list_getitem_lookup
    (wpAny_getItem_list_slice (hl.push _) (Heap.IsSliceOf.new ..) pl pu .none (by simp) ?_ hsz) hs
  have N1 := News.push (F.push { cls := .type "slice", data := .fields #[vl, vu, .none] }) (N.grown fun _ _ e => Heap.get?_push_of_some _ e) { cls := .type "list", data := .seq (slicePick items lo hi none) }
  rw [Heap.size_push] at N1
  show Q (.ref (s.heap.push _).objs.size) _
  rw [Heap.size_push]
  exact h _ ((F.push _).push _) N1
theorem slice_from_I {value slice : Expr} {vs : List Value} {ns : List Int} {n : Nat} {x : Int} {u : Tok} (F : Fr h₀ L s.heap m) (N : News h₀ L s.heap news) (hm : (D, W.listOf vs.toArray n) ∈ news) (hi : IntsAre vs ns) (h0 : 0 ≤ x) (hz : ns.length ≤ 100000)
    (h : ∀ h' D' vs', Fr h₀ L h' m → News h₀ L h' ((D', W.listOf vs'.toArray 0) :: news) → IntsAre vs' (ns.drop x.toNat) → (∀ p ∈ news, p.1 < D') → Q (.ref D') { s with heap := h' })
    (hs : subscripted slice false (.ref D) (.ref s.heap.objs.size) = operate [.ref s.heap.objs.size, .ref D] (getItem (.ref D) (.ref s.heap.objs.size)) := by with_unfolding_all rfl) :
    wpAny (model prog w) A (subscriptTail value slice (.ref D) (.ref s.heap.objs.size)) Q E { s with heap := s.heap.push { cls := .type "slice", data := .fields #[.int x u, .none, .none] } } := by
  refine slice_T F N (News.isList N hm) (.int _ _) .none (fun h' F' N' => ?_) hs (by rw [List.size_toArray, hi.length, sizeLine_eq]; omega)
  have e : slicePick vs.toArray (some x) none none = (slicePick vs.toArray (some x) none none).toList.toArray := by simp
  rw [e] at N'
  exact h h' _ _ F' N' (slice_ints_fromW hi h0) fun p hp => Nat.lt_succ_of_lt (Heap.lt_size (N p hp).1)
end
end Mine
-- part Rules5
namespace Mine
section
variable {prog : Program} {w : World} {A : Around} {E : Value → Shared → Prop} {s : Shared} {h₀ : Heap} {L : Addr} {m : Str → Option Value} {env : Env}
theorem wpAny_hold {α : Type} {M : Model} {t : Sem α} {Q : α → Shared → Prop} (h : wpAny M A t (fun a s' => Hold (Q a s')) E s) : wpAny M A t Q E s :=
  wpAny_mono h (fun _ _ z => z.out) fun _ _ e => e
/-- what is asked of a comprehension over a range, where the range stands -/
def RangeC (prog : Program) (w : World) (A : Around) (h₀ : Heap) (L : Addr) (m : Str → Option Value) (env : Env) (elt : Expr) (x : Str) (ifs : List Expr) (scope : Scope) (cl : List (Str × Addr)) (pz : Int → Bool) (d : Int → PyData) (Q : Value → Shared → Prop) (xv : Value) (s₁ : Shared) : Prop :=
  ∃ news : List (Addr × Obj), ∃ r a₀ b₀ c₀ t₀ u₀ v₀, ∃ n : Nat, xv = .ref r ∧ IsRange s₁.heap r a₀ b₀ c₀ t₀ u₀ v₀ ∧ Builtin.Range.small a₀ b₀ c₀ = true ∧ Builtin.Range.rangeSize a₀ b₀ c₀ = (n : Int) ∧ n ≤ sizeLine ∧ Fr h₀ L s₁.heap m ∧ News h₀ L s₁.heap news ∧
      (∀ C a v s₂ m₂ E', s₁.heap.objs.size ≤ C → a ∈ rangeInts a₀ c₀ n → ItemKind.int.is a v → s₂.heap.Ns (compEnvC scope cl C env).locals m₂ → m₂ x = some v → (∀ b o, s₁.heap.get? b = some o → s₂.heap.get? b = some o) →
        wpAny (model prog w) A (forIn ifs true fun c r => if r = true then do let ok ← isTrue c (compEnvC scope cl C env) (eval c (compEnvC scope cl C env)); pure (ForInStep.yield ok) else pure (ForInStep.yield r))
          (fun ok s₃ => ok = pz a ∧ Keeps s₂ s₃) E' s₂) ∧
      (∀ C a v s₂ m₂ E', s₁.heap.objs.size ≤ C → a ∈ rangeInts a₀ c₀ n → ItemKind.int.is a v → pz a = true → s₂.heap.Ns (compEnvC scope cl C env).locals m₂ → m₂ x = some v → (∀ b o, s₁.heap.get? b = some o → s₂.heap.get? b = some o) →
        wpAny (model prog w) A (eval elt (compEnvC scope cl C env)) (fun y s₃ => Carried y (d a) ∧ Keeps s₂ s₃) E' s₂) ∧
      (∀ D (ys : List Value) h' tk, Fr h₀ L h' m → News h₀ L h' news → h₀.get? D = none → h'.IsList D ys.toArray → NewPlain h' news D ys.toArray → CarriedAll ys (((rangeInts a₀ c₀ n).filter pz).map d) → Q (.ref D) { s₁ with heap := h', toks := tk })
theorem comp_range (pz : Int → Bool) (d : Int → PyData) {elt iter : Expr} {x : Str} {px : Pos} {ifs : List Expr} {scope : Scope} {cl : List (Str × Addr)} {pos : Pos} {Q : Value → Shared → Prop} (_ : Fr h₀ L s.heap m)
    (hh : A.handled = none) (hclos : closureFor scope env = pure cl) (hcell : ∀ y ∈ scope.names, y.2 ≠ .cell) (hkind : scope.kind = .function)
    (hnames : ∀ y ∈ scope.names, y.2 = .local → scope.names.lookup y.1 = some .local) (hx : scope.names.lookup x = some .local)
    (hs : ∀ x, foldedSetIterable iter env x = pure x)
    (h : wpAny (model prog w) A (eval iter env) (fun xv s₁ => Hold (RangeC prog w A h₀ L m env elt x ifs scope cl pz d Q xv s₁)) E s) :
    wpAny (model prog w) A (eval (.ListComp elt [⟨.Name x px, iter, ifs, 0⟩] scope pos) env) Q E s :=
  ListComp_DCr hh hclos hcell hkind hnames hx (wpAny_hold h) hs
/-- the same, where the list is given a name -/
def RangeA (prog : Program) (w : World) (A : Around) (h₀ : Heap) (L : Addr) (m : Str → Option Value) (env : Env) (elt : Expr) (x y : Str) (ifs : List Expr) (scope : Scope) (cl : List (Str × Addr)) (pz : Int → Bool) (d : Int → PyData) (Q : Flow → Shared → Prop) (xv : Value) (s₁ : Shared) : Prop :=
  ∃ news : List (Addr × Obj), ∃ r a₀ b₀ c₀ t₀ u₀ v₀, ∃ n : Nat, xv = .ref r ∧ IsRange s₁.heap r a₀ b₀ c₀ t₀ u₀ v₀ ∧ Builtin.Range.small a₀ b₀ c₀ = true ∧ Builtin.Range.rangeSize a₀ b₀ c₀ = (n : Int) ∧ n ≤ sizeLine ∧ Fr h₀ L s₁.heap m ∧ News h₀ L s₁.heap news ∧
      (∀ C a v s₂ m₂ E', s₁.heap.objs.size ≤ C → a ∈ rangeInts a₀ c₀ n → ItemKind.int.is a v → s₂.heap.Ns (compEnvC scope cl C env).locals m₂ → m₂ x = some v → (∀ b o, s₁.heap.get? b = some o → s₂.heap.get? b = some o) →
        wpAny (model prog w) A (forIn ifs true fun c r => if r = true then do let ok ← isTrue c (compEnvC scope cl C env) (eval c (compEnvC scope cl C env)); pure (ForInStep.yield ok) else pure (ForInStep.yield r))
          (fun ok s₃ => ok = pz a ∧ Keeps s₂ s₃) E' s₂) ∧
      (∀ C a v s₂ m₂ E', s₁.heap.objs.size ≤ C → a ∈ rangeInts a₀ c₀ n → ItemKind.int.is a v → pz a = true → s₂.heap.Ns (compEnvC scope cl C env).locals m₂ → m₂ x = some v → (∀ b o, s₁.heap.get? b = some o → s₂.heap.get? b = some o) →
        wpAny (model prog w) A (eval elt (compEnvC scope cl C env)) (fun y s₃ => Carried y (d a) ∧ Keeps s₂ s₃) E' s₂) ∧
      (∀ D (ys : List Value) h' tk, Fr h₀ L h' (fun z => if z = y then some (.ref D) else m z) → News h₀ L h' news → h₀.get? D = none → h'.IsList D ys.toArray → NewPlain h' news D ys.toArray → CarriedAll ys (((rangeInts a₀ c₀ n).filter pz).map d) → Q .next { s₁ with heap := h', toks := tk })
theorem comp_rangeA (pz : Int → Bool) (d : Int → PyData) {elt iter : Expr} {x y : Str} {px py : Pos} {ifs : List Expr} {scope : Scope} {cl : List (Str × Addr)} {pos spos : Pos} {Q : Flow → Shared → Prop} (_ : Fr h₀ L s.heap m)
    (hsw : swapsWith (.ListComp elt [⟨.Name x px, iter, ifs, 0⟩] scope pos) (some (.Name y py)) spos.line env = pure true) (hL : env.locals = L)
    (hh : A.handled = none) (hclos : closureFor scope env = pure cl) (hcell : ∀ z ∈ scope.names, z.2 ≠ .cell) (hkind : scope.kind = .function)
    (hnames : ∀ z ∈ scope.names, z.2 = .local → scope.names.lookup z.1 = some .local) (hx : scope.names.lookup x = some .local)
    (hy : env.kindOf y = some .local) (hp : (env.scope.kind == .class || (env.scope.kind == .module && env.locals != env.globals)) = false)
    (hs : ∀ x, foldedSetIterable iter env x = pure x)
    (h : wpAny (model prog w) A (eval iter env) (fun xv s₁ => Hold (RangeA prog w A h₀ L m env elt x y ifs scope cl pz d Q xv s₁)) E s) :
    wpAny (model prog w) A (exec (.Assign [.Name y py] (.ListComp elt [⟨.Name x px, iter, ifs, 0⟩] scope pos) spos) env) Q E s :=
  Assign_ListComp_DCr hsw hL hh hclos hcell hkind hnames hx hy hp (wpAny_hold h) hs
end
end Mine
namespace Mine
section
variable {prog : Program} {w : World} {A : Around} {E : Value → Shared → Prop} {s : Shared} {h₀ u : Heap} {L : Addr} {m : Str → Option Value} {news : List (Addr × Obj)} {x : Str} {t : Tok} {value slice : Expr} {Q : Value → Shared → Prop}
theorem keptE : PySem.KeptH (fun h => InElt u h ∧ Fr h₀ L h m ∧ News h₀ L h news) := fun h o H => ⟨fun b o' e => Heap.get?_push_of_some _ (H.1 b o' e), (keptFrN h o H.2).1, (keptFrN h o H.2).2⟩
theorem slice_E_ns {j : Int} {uj : Tok} (hE : InElt u s.heap) (hF : Fr h₀ L s.heap m) (hN : News h₀ L s.heap news) (hsz : x.length ≤ 100000)
    (h : ∀ h' t' k, InElt u h' → Fr h₀ L h' m → News h₀ L h' news → (Txt.slice x none (some j)).length ≤ x.length → Q (.str (Txt.slice x none (some j)) t') { s with heap := h', toks := k })
    (hs : subscripted slice false (.str x t) (.ref s.heap.objs.size) = operate [.ref s.heap.objs.size, .str x t] (getItem (.str x t) (.ref s.heap.objs.size)) := by with_unfolding_all rfl)
    (ht : ∀ r, letTemporaryGo value (.str x t) r = pure () := by intro _; with_unfolding_all rfl) :
    wpAny (model prog w) A (subscriptTail value slice (.str x t) (.ref s.heap.objs.size)) Q E { s with heap := s.heap.push { cls := .type "slice", data := .fields #[.none, .int j uj, .none] } } :=
  tail_of_ItemOn (SBH.sliceItem_ns keptE ⟨hE, hF, hN⟩ (fun h' t' k a => h h' t' k a.1 a.2.1 a.2.2 (PyProof.Txt.length_slice_le x _ _)) (by rw [sizeLine_eq]; omega)) hs ht
theorem slice_E_ss {i j : Int} {ui uj : Tok} (hE : InElt u s.heap) (hF : Fr h₀ L s.heap m) (hN : News h₀ L s.heap news) (hsz : x.length ≤ 100000)
    (h : ∀ h' t' k, InElt u h' → Fr h₀ L h' m → News h₀ L h' news → (Txt.slice x (some i) (some j)).length ≤ x.length → Q (.str (Txt.slice x (some i) (some j)) t') { s with heap := h', toks := k })
    (hs : subscripted slice false (.str x t) (.ref s.heap.objs.size) = operate [.ref s.heap.objs.size, .str x t] (getItem (.str x t) (.ref s.heap.objs.size)) := by with_unfolding_all rfl)
    (ht : ∀ r, letTemporaryGo value (.str x t) r = pure () := by intro _; with_unfolding_all rfl) :
    wpAny (model prog w) A (subscriptTail value slice (.str x t) (.ref s.heap.objs.size)) Q E { s with heap := s.heap.push { cls := .type "slice", data := .fields #[.int i ui, .int j uj, .none] } } :=
  tail_of_ItemOn (SBH.sliceItem_ss keptE ⟨hE, hF, hN⟩ (fun h' t' k a => h h' t' k a.1 a.2.1 a.2.2 (PyProof.Txt.length_slice_le x _ _)) (by rw [sizeLine_eq]; omega)) hs ht
end
end Mine
-- part Rules6
namespace Mine
theorem reads_intsA {h : Heap} : ∀ {vs : List Value} {ns : List Int}, IntsAre vs ns → ReadsAll h vs (ns.map PyData.int) []
  | _, _, .nil => .nil
  | _, _, .cons n t r => .cons (as := []) (.int n t) (reads_intsA r)
theorem reads_norm {h₀ h : Heap} {L T C : Addr} {news : List (Addr × Obj)} {vs : List Value} {ns : List Int} {b : Int} {t : Tok} (N : News h₀ L h news) (m1 : (T, tupObj #[.ref C, .int b t]) ∈ news) (m2 : (C, tupObj vs.toArray) ∈ news) (i : IntsAre vs ns) :
    Reads h (.ref T) (.tuple [.tuple (ns.map PyData.int), .int b]) [] :=
  reads_tuple_at (N _ m1).1 rfl rfl (.cons (as := []) (reads_tuple_at (N _ m2).1 rfl rfl (by simpa using reads_intsA i)) (.cons (as := []) (.int b t) .nil))
theorem shaped_norm (ns : List Int) (b : Int) : SeqAt.shaped (.tuple [.tuple (ns.map PyData.int), .int b]) = true := by
  simp [SeqAt.shaped, PyData.canLay0, PyData.canLayAll0, PyData.depth, PyData.depthAll, ke_canLayAll0, ke_depthAll]
theorem eqv_norm (ns ms : List Int) (b c : Int) : PyData.eqv (.tuple [.tuple (ns.map PyData.int), .int b]) (.tuple [.tuple (ms.map PyData.int), .int c]) = (decide (ns = ms) && decide (b = c)) := by
  simp only [PyData.eqv, PyData.eqvAll, ked_eqvAll, Bool.and_true]
  congr 1
section
variable {prog : Program} {w : World} {A : Around} {E : Value → Shared → Prop} {s : Shared} {h₀ : Heap} {L T1 C1 T2 C2 : Addr} {m : Str → Option Value} {news : List (Addr × Obj)} {Q : Value → Shared → Prop} {vs1 vs2 : List Value} {ns1 ns2 : List Int} {b1 b2 : Int} {t1 t2 : Tok}
theorem ne_norm (N : News h₀ L s.heap news) (m1 : (T1, tupObj #[.ref C1, .int b1 t1]) ∈ news) (m2 : (C1, tupObj vs1.toArray) ∈ news) (i1 : IntsAre vs1 ns1) (m3 : (T2, tupObj #[.ref C2, .int b2 t2]) ∈ news) (m4 : (C2, tupObj vs2.toArray) ∈ news) (i2 : IntsAre vs2 ns2)
    (hu : A.units + 64 < cLine) (h : Q (.bool (!(decide (ns1 = ns2) && decide (b1 = b2)))) s) : wpAny (model prog w) A (compareOp .NotEq (.ref T1) (.ref T2)) Q E s :=
  ne_dataH (reads_norm N m1 m2 i1) (reads_norm N m3 m4 i2) (shaped_norm _ _) (shaped_norm _ _) hu (by rw [eqv_norm]; exact h)
end
end Mine
-- part Rules7
namespace Mine
section
variable {prog : Program} {w : World} {A : Around} {E : Value → Shared → Prop} {s : Shared} {h₀ : Heap} {L a b : Addr} {news : List (Addr × Obj)} {Q : Value → Shared → Prop} {vs ws : List Value} {xs ys : List Str} {n k : Nat}
end
end Mine
-- part Mail
namespace Mine
def leadTxt (r : List Nat) : List Nat := (r.map fun n => List.replicate n 32 ++ [9]).flatten
def leadOf (r : List Nat) : Str := ⟨(leadTxt r).toArray⟩
theorem lead_chars : ∀ r : List Nat, ∀ c ∈ leadTxt r, c = 32 ∨ c = 9
  | [], _, h => nomatch h
  | n :: r, c, h => by
    have e1 : leadTxt (n :: r) = List.replicate n 32 ++ ([9] ++ leadTxt r) := by unfold leadTxt; rw [List.map_cons, List.flatten_cons, List.append_assoc]
    rw [e1] at h
    rcases List.mem_append.mp h with h | h
    · exact .inl (List.eq_of_mem_replicate h)
    · rcases List.mem_append.mp h with h | h
      · exact .inr (List.mem_singleton.mp h)
      · exact lead_chars r c h
theorem leadOf_chars (r : List Nat) : ∀ c ∈ (leadOf r).cps.toList, c = 32 ∨ c = 9 := lead_chars r
end Mine
-- part Pl2
namespace Mine
def mkS (l : List Nat) : Str := ⟨l.toArray⟩
def MadeN (h : Heap) (h' : Heap) (l : List (Addr × Obj)) : Prop := ∀ p ∈ l, h'.get? p.1 = some p.2 ∧ h.get? p.1 = none
theorem MadeN.of {h h' : Heap} {L : Addr} {l l' : List (Addr × Obj)} (N : News h L h' l') (hs : l.Sublist l') : MadeN h h' l := fun p hp => ⟨(N p (hs.subset hp)).1, (N p (hs.subset hp)).2.2⟩
theorem MadeN.onto {h₀ h h' : Heap} {L : Addr} {m : Str → Option Value} {news l : List (Addr × Obj)} (Y : MadeN h h' l) (F : Fr h₀ L h m) (N : News h₀ L h news) (k : h.StaysIn h') : News h₀ L h' (l ++ news) := by
  obtain ⟨oL, es, ep, hL, r⟩ := F.ns
  intro p hp
  rcases List.mem_append.mp hp with q | q
  · refine ⟨(Y p q).1, fun e => ?_, ?_⟩
    · have := (Y p q).2; rw [e, hL] at this; cases this
    · cases e : h₀.get? p.1 with
      | none => rfl
      | some o => have := (Y p q).2; rw [F.keep _ _ e] at this; cases this
  · exact keepsNews N k p q
theorem mkS_app (x y : List Nat) : mkS x ++ mkS y = mkS (x ++ y) := by
  show Str.append _ _ = _
  simp [Str.append, mkS]
theorem app_S {vs : List Value} {xs : List Str} (h1 : StrsAre vs xs) {ws : List Value} {ys : List Str} (h2 : StrsAre ws ys) : StrsAre (vs ++ ws) (xs ++ ys) := by
  induction h1 with
  | nil => exact h2
  | cons y t r ih => exact .cons y t ih
theorem comp_news {h₀ h' : Heap} {L D : Addr} {m : Str → Option Value} {news : List (Addr × Obj)} {ys : List Value} (F : Fr h₀ L h' m) (N : News h₀ L h' news) (q1 : h₀.get? D = none) (q2 : h'.IsList D ys.toArray) (q3 : NewPlain h' news D ys.toArray) :
    ∃ n, News h₀ L h' ((D, W.listOf ys.toArray n) :: news) := by
  obtain ⟨⟨n, e⟩, _⟩ := q3
  refine ⟨n, fun p hp => ?_⟩
  rcases List.mem_cons.mp hp with rfl | hp
  · exact ⟨e, ne_locals_of_isList F q2, q1⟩
  · exact N p hp
theorem joinE : ∀ xs : List (List Nat), Str.join ⟨#[]⟩ (xs.map mkS) = mkS xs.flatten
  | [] => rfl
  | [x] => by
    show mkS x = mkS [x].flatten
    simp
  | x :: y :: r => by
    show mkS x ++ mkS [] ++ Str.join ⟨#[]⟩ ((y :: r).map mkS) = _
    rw [joinE (y :: r), mkS_app, mkS_app]
    simp
theorem join_mkS (xs : List (List Nat)) : Txt.join ⟨#[]⟩ (xs.map mkS) = mkS xs.flatten := by
  have e : Txt.join ⟨#[]⟩ (xs.map mkS) = Str.join ⟨#[]⟩ (xs.map mkS) := StrLaws.glued_eq_join _ _
  rw [e, joinE]


theorem slice_to {l : List Nat} {j : Nat} (h : j ≤ l.length) : Txt.slice (mkS l) none (some (j : Int)) = mkS (l.take j) := by
  have e := beq_iff_eq.mp (slice_closes_to (x := mkS l) (j := (j : Int)) ⟨by omega, by show (j : Int) ≤ (l.toArray.toList.length : Int); simp; exact h⟩)
  rw [e]
  simp [mkS]
theorem slice_from {l : List Nat} {i : Nat} (h : i ≤ l.length) : Txt.slice (mkS l) (some (i : Int)) none = mkS (l.drop i) := by
  have e := slice_from_eq (x := mkS l) (i := (i : Int)) (b := (l.length : Int)) (by omega) (by show (i : Int) ≤ (l.toArray.size : Int); simp; exact h) (by show (l.length : Int) = (l.toArray.size : Int); simp)
  rw [e]
  have : ((l.length : Int) - (i : Int)).toNat = l.length - i := by omega
  rw [this]
  simp only [mkS, Int.toNat_natCast, Str.mk.injEq]
  congr 1
  rw [List.take_of_length_le (by simp)]
theorem slice_mid {l : List Nat} {i j : Nat} (h1 : i ≤ j) (h2 : j ≤ l.length) : Txt.slice (mkS l) (some (i : Int)) (some (j : Int)) = mkS ((l.drop i).take (j - i)) := by
  have e := beq_iff_eq.mp (slice_closes (x := mkS l) (i := (i : Int)) (j := (j : Int)) ⟨by omega, by omega, by show (j : Int) ≤ (l.toArray.toList.length : Int); simp; exact h2⟩)
  rw [e]
  have : ((j : Int) - (i : Int)).toNat = j - i := by omega
  rw [this]
  simp [mkS]
theorem len_mkS (l : List Nat) : (mkS l).length = l.length := by show l.toArray.size = _; simp
end Mine
-- part ZipC
namespace Mine
section
variable {prog : Program} {w : World} {A : Around} {E : Value → Shared → Prop} {s : Shared} {env : Env}
theorem strs_get {vs : List Value} {xs : List Str} (h : StrsAre vs xs) : ∀ (i : Nat) v, vs.toArray[i]? = some v → ∃ x t, xs[i]? = some x ∧ v = .str x t := by
  intro i v e
  rw [List.getElem?_toArray] at e
  induction h generalizing i with
  | nil => cases e
  | cons x t r ih =>
    cases i with
    | zero => cases e; exact ⟨x, t, rfl, rfl⟩
    | succ i => exact ih i e
theorem ascii_type {e : List Nat} (he : ∀ c ∈ e, c < 128) : strIterType (mkS e) = "str_ascii_iterator" := by
  have : (mkS e).cps.all (· < 128) = true := by
    rw [← Array.all_toList]
    exact List.all_eq_true.mpr fun c hc => decide_eq_true (he c hc)
  simp [strIterType, this]
/-- zip of a list of texts and a text, as the source of a comprehension -/
theorem zip_core {R : Addr} {rvs : List Value} {xs : List Str} {e : List Nat} {te : Tok} {elt : Expr} {ifs : List Expr} {x x₂ : Str} {scope : Scope} {cl : List (Str × Addr)} (ch : List Addr) (J : Nat → List Value → Heap → Prop)
    (hh : A.handled = none) (hl : s.heap.IsList R rvs.toArray) (S : StrsAre rvs xs) (he : ∀ c ∈ e, c < 128) (hz : rvs.length ≤ 1000)
    (hch : ∀ b ∈ ch, b < s.heap.objs.size ∧ b ≠ R) (hJ : ∀ i ys h h', J i ys h → (∀ b ∈ ch, ∀ o, h.get? b = some o → h'.get? b = some o) → J i ys h') (hJ0 : J 0 [] s.heap)
    (turn : ∀ i (y : Str) ty (c : Nat) tc ys C m₂ (s₂ : Shared) E', xs[i]? = some y → e[i]? = some c → ys.length ≤ i → J i ys s₂.heap → s.heap.objs.size ≤ C → s₂.heap.Ns (compEnvC scope cl C env).locals m₂ → m₂ x = some (.str y ty) → m₂ x₂ = some (.str (mkS [c]) tc) →
      (∃ h' tk, s₂ = { s with heap := h', toks := tk }) → (∀ b o, b ∉ ch → s.heap.get? b = some o → s₂.heap.get? b = some o) →
      wpAny (model prog w) A (testsOf ifs (compEnvC scope cl C env)) (fun ok s₃ => Keeps s₂ s₃ ∧ if ok = true then wpAny (model prog w) A (eval elt (compEnvC scope cl C env)) (fun y s₄ => KeepsBut ch s₃ s₄ ∧ J (i + 1) (ys ++ [y]) s₄.heap) E' s₃ else J (i + 1) ys s₃.heap) E' s₂)
    : wpAny (model prog w) A (call (.type "zip") [.ref R, .str (mkS e) te]) (fun xv s₁ => s.heap.objs.size ≤ s₁.heap.objs.size ∧ ∀ Q : Value → Shared → Prop,
      (∀ D ys h' tk, J (min xs.length e.length) ys h' → (∀ b o, b ∉ ch → s.heap.get? b = some o → h'.get? b = some o) → h'.get? D = some (LCg.lst ys) → s.heap.objs.size ≤ D → Q (.ref D) { s with heap := h', toks := tk }) →
      ZSrc prog w A env elt x x₂ ifs scope cl Q xv s₁) E s := by
  have hR : R < s.heap.objs.size := by obtain ⟨_, q, _⟩ := hl; exact Heap.lt_size q
  have hR' : @LT.lt Nat _ R s.heap.objs.size := hR
  refine call_zip_S hl fun h' hz' hTI hTO hi1 hi2 hsz hk => ⟨by show _ ≤ h'.objs.size; rw [hsz]; omega, fun Q fin => ?_⟩
  rw [ascii_type he] at hi2
  have hn : min rvs.toArray.size (mkS e).cps.size = min xs.length e.length := by
    rw [List.size_toArray, S.length]; simp [mkS]
  have Y : ZApart (s.heap.objs.size + 4) (s.heap.objs.size + 2) (s.heap.objs.size + 3) s.heap.objs.size (s.heap.objs.size + 1) [s.heap.objs.size, R] [s.heap.objs.size + 1] := by
    have ne : ∀ {p q : Nat}, p ≠ q → @Ne Addr p q := fun h => h
    constructor
    · exact ne (by omega)
    · exact ne (by omega)
    · exact ne (by omega)
    · exact ne (by omega)
    · exact ne (by omega)
    · intro h
      rcases List.mem_cons.mp h with h | h
      · have h : @Eq Nat _ _ := h; omega
      · have h : @Eq Nat _ _ := List.mem_singleton.mp h; omega
    · intro h; have h : @Eq Nat _ _ := List.mem_singleton.mp h; omega
    · intro h
      rcases List.mem_cons.mp h with h | h
      · have h : @Eq Nat _ _ := h; omega
      · have h : @Eq Nat _ _ := List.mem_singleton.mp h; omega
    · intro h; have h : @Eq Nat _ _ := List.mem_singleton.mp h; omega
    · intro h
      rcases List.mem_cons.mp h with h | h
      · have h : @Eq Nat _ _ := h; omega
      · have h : @Eq Nat _ _ := List.mem_singleton.mp h; omega
    · intro h; have h : @Eq Nat _ _ := List.mem_singleton.mp h; omega
    · exact List.mem_cons_self ..
    · exact List.mem_cons_self ..
  have hRi : R ≠ s.heap.objs.size := Nat.ne_of_lt hR
  have W := walksZ (prog := prog) (w := w) (A := A) Y (Draws.list (show A.in1.handled = none from hh) s.heap.objs.size R hRi rvs.toArray) (Draws.strAscii (show A.in1.handled = none from hh) (s.heap.objs.size + 1) (mkS e) te)
  refine ⟨s.heap.objs.size + 4, _, _, _, _, _, _, ch, J, rfl, hh, W, ?_, ?_, ?_, ?_, ?_, hJ, ?_, ?_, ?_⟩
  rotate_left 2
  · exact ⟨hz', hTI, ⟨_, _, hTO⟩, ⟨hi1, hl.at fun o q => hk _ o q⟩, hi2⟩
  rotate_left 5
  · rw [hn, sizeLine_eq]
    have := S.length
    omega
  · rintro i vals ⟨p, q, _, _, rfl⟩
    exact ⟨p, q, rfl⟩
  · intro b hb
    show @LT.lt Nat _ b h'.objs.size
    rw [hsz]
    simp only [List.mem_cons, List.mem_append, List.not_mem_nil, or_false] at hb
    rcases hb with e | e | e | (e | e) | e <;> (have e : @Eq Nat _ _ := e; omega)
  · intro b hb
    obtain ⟨h1, h2⟩ := hch b hb
    have h1' : @LT.lt Nat _ b s.heap.objs.size := h1
    refine ⟨by show b < h'.objs.size; rw [hsz]; exact Nat.lt_of_lt_of_le h1 (Nat.le_add_right _ _), fun hm => ?_⟩
    simp only [List.mem_cons, List.mem_append, List.not_mem_nil, or_false] at hm
    rcases hm with e | e | e | (e | e) | e
    · have e : @Eq Nat _ _ := e; omega
    · have e : @Eq Nat _ _ := e; omega
    · have e : @Eq Nat _ _ := e; omega
    · have e : @Eq Nat _ _ := e; omega
    · exact h2 e
    · have e : @Eq Nat _ _ := e; omega
  · exact hJ _ _ _ _ hJ0 fun b _ o q => hk b o q
  · constructor
    intro i v₁ v₂ ys C m₂ s₂ E' hi hP hyl hJi hC hns h1 h2 hs hk2
    obtain ⟨p, q, hp, hq, epq⟩ := hP
    obtain ⟨rfl, rfl⟩ : v₁ = p ∧ v₂ = q := by simpa using congrArg Array.toList epq
    obtain ⟨y, ty, hy, rfl⟩ := strs_get S i _ hp
    obtain ⟨c, tc, hc, rfl⟩ := hq
    obtain ⟨h2', tk2, rfl⟩ := hs
    refine turn i y ty c tc ys C m₂ _ E' hy (by simpa [mkS] using hc) hyl hJi (by have hC : h'.objs.size ≤ C := hC; rw [hsz] at hC; exact Nat.le_trans (Nat.le_add_right _ _) hC) hns h1 h2 ⟨h2', tk2, rfl⟩ fun b o hb q => hk2 b o ?_ hb (hk b o q)
    intro hm
    have hlt : @LT.lt Nat _ b s.heap.objs.size := Heap.lt_size q
    simp only [List.mem_cons, List.not_mem_nil, or_false] at hm
    rcases hm with e | e | e | e <;> (have e : @Eq Nat _ _ := e; omega)
  · intro D ys h2 tk2 hJn hk2 hD hDs
    rw [hn] at hJn
    refine fin D ys h2 tk2 hJn (fun b o hb q => hk2 b o ?_ hb (hk b o q)) hD (by have hDs : h'.objs.size ≤ D := hDs; rw [hsz] at hDs; exact Nat.le_trans (Nat.le_add_right _ _) hDs)
    intro hm
    have hlt : @LT.lt Nat _ b s.heap.objs.size := Heap.lt_size q
    simp only [List.mem_cons, List.not_mem_nil, or_false] at hm
    rcases hm with e | e | e | e <;> (have e : @Eq Nat _ _ := e; omega)
theorem zip_src {R : Addr} {rvs : List Value} {xs : List Str} {e : List Nat} {te : Tok} {elt : Expr} {ifs : List Expr} {x x₂ : Str} {scope : Scope} {cl : List (Str × Addr)} {Q : Value → Shared → Prop} (ch : List Addr) (J : Nat → List Value → Heap → Prop)
    (hh : A.handled = none) (hl : s.heap.IsList R rvs.toArray) (S : StrsAre rvs xs) (he : ∀ c ∈ e, c < 128) (hz : rvs.length ≤ 1000)
    (hch : ∀ b ∈ ch, b < s.heap.objs.size ∧ b ≠ R) (hJ : ∀ i ys h h', J i ys h → (∀ b ∈ ch, ∀ o, h.get? b = some o → h'.get? b = some o) → J i ys h') (hJ0 : J 0 [] s.heap)
    (turn : ∀ i (y : Str) ty (c : Nat) tc ys C m₂ (s₂ : Shared) E', xs[i]? = some y → e[i]? = some c → ys.length ≤ i → J i ys s₂.heap → s.heap.objs.size ≤ C → s₂.heap.Ns (compEnvC scope cl C env).locals m₂ → m₂ x = some (.str y ty) → m₂ x₂ = some (.str (mkS [c]) tc) →
      (∃ h' tk, s₂ = { s with heap := h', toks := tk }) → (∀ b o, b ∉ ch → s.heap.get? b = some o → s₂.heap.get? b = some o) →
      wpAny (model prog w) A (testsOf ifs (compEnvC scope cl C env)) (fun ok s₃ => Keeps s₂ s₃ ∧ if ok = true then wpAny (model prog w) A (eval elt (compEnvC scope cl C env)) (fun y s₄ => KeepsBut ch s₃ s₄ ∧ J (i + 1) (ys ++ [y]) s₄.heap) E' s₃ else J (i + 1) ys s₃.heap) E' s₂)
    (fin : ∀ D ys h' tk, J (min xs.length e.length) ys h' → (∀ b o, b ∉ ch → s.heap.get? b = some o → h'.get? b = some o) → h'.get? D = some (LCg.lst ys) → s.heap.objs.size ≤ D → Q (.ref D) { s with heap := h', toks := tk }) :
    wpAny (model prog w) A (call (.type "zip") [.ref R, .str (mkS e) te]) (fun xv s₁ => Hold (ZSrc prog w A env elt x x₂ ifs scope cl Q xv s₁)) E s :=
  wpAny_mono (zip_core ch J hh hl S he hz hch hJ hJ0 turn) (fun _ _ z => Hold.go (z.2 Q fin)) fun _ _ z => z
theorem zip_srcA {R : Addr} {rvs : List Value} {xs : List Str} {e : List Nat} {te : Tok} {elt : Expr} {ifs : List Expr} {x x₂ : Str} {scope : Scope} {cl : List (Str × Addr)} {y : Str} {Q : Flow → Shared → Prop} (ch : List Addr) (J : Nat → List Value → Heap → Prop)
    (hh : A.handled = none) (hl : s.heap.IsList R rvs.toArray) (S : StrsAre rvs xs) (he : ∀ c ∈ e, c < 128) (hz : rvs.length ≤ 1000)
    (hch : ∀ b ∈ ch, b < s.heap.objs.size ∧ b ≠ R) (hJ : ∀ i ys h h', J i ys h → (∀ b ∈ ch, ∀ o, h.get? b = some o → h'.get? b = some o) → J i ys h') (hJ0 : J 0 [] s.heap)
    (turn : ∀ i (y : Str) ty (c : Nat) tc ys C m₂ (s₂ : Shared) E', xs[i]? = some y → e[i]? = some c → ys.length ≤ i → J i ys s₂.heap → s.heap.objs.size ≤ C → s₂.heap.Ns (compEnvC scope cl C env).locals m₂ → m₂ x = some (.str y ty) → m₂ x₂ = some (.str (mkS [c]) tc) →
      (∃ h' tk, s₂ = { s with heap := h', toks := tk }) → (∀ b o, b ∉ ch → s.heap.get? b = some o → s₂.heap.get? b = some o) →
      wpAny (model prog w) A (testsOf ifs (compEnvC scope cl C env)) (fun ok s₃ => Keeps s₂ s₃ ∧ if ok = true then wpAny (model prog w) A (eval elt (compEnvC scope cl C env)) (fun y s₄ => KeepsBut ch s₃ s₄ ∧ J (i + 1) (ys ++ [y]) s₄.heap) E' s₃ else J (i + 1) ys s₃.heap) E' s₂)
    {h₀ : Heap} {m : Str → Option Value} {news : List (Addr × Obj)} (F : Fr h₀ env.locals s.heap m) (N : News h₀ env.locals s.heap news) (hcL : env.locals ∉ ch) (hc0 : ∀ b ∈ ch, h₀.get? b = none)
    (fin : ∀ D ys h' tk, J (min xs.length e.length) ys h' → Fr h₀ env.locals h' (fun z => if z = y then some (.ref D) else m z) → (∀ l : List (Addr × Obj), (∀ p ∈ l, p ∈ news ∧ p.1 ∉ ch) → News h₀ env.locals h' ((D, W.listOf ys.toArray ys.length) :: l)) → (∀ p ∈ news, p.1 < D) →
      Q .next { s with heap := h', toks := tk }) :
    wpAny (model prog w) A (call (.type "zip") [.ref R, .str (mkS e) te]) (fun xv s₁ => Hold (ZSrcA prog w A env elt x x₂ y ifs scope cl Q xv s₁)) E s := by
  refine wpAny_mono (zip_core ch J hh hl S he hz hch hJ hJ0 turn) (fun xv s₁ z => Hold.go ⟨Nat.lt_of_lt_of_le F.ns.lt z.1, z.2 _ ?_⟩) fun _ _ z => z
  intro D ys h' tk hJn hk hD hDs
  refine ⟨m, F.ns.at' fun o q => hk _ o hcL q, ?_⟩
  intro C h'' tk' hC hDC hns hk2
  have hC' : s.heap.objs.size ≤ C := Nat.le_trans z.1 hC
  have hlt : ∀ {b o}, s.heap.get? b = some o → b ≠ C := fun q e => Nat.lt_irrefl _ (Nat.lt_of_lt_of_le (e ▸ Heap.lt_size q) hC')
  have hDL : D ≠ env.locals := fun e => Nat.lt_irrefl _ (Nat.lt_of_lt_of_le (e ▸ F.ns.lt) hDs)
  have hDC' : D ≠ C := fun e => hDC (by rw [e])
  have none0 : h₀.get? D = none := by
    cases q : h₀.get? D with
    | none => rfl
    | some o => exact absurd (Nat.lt_of_lt_of_le (Heap.lt_size (F.keep _ _ q)) hDs) (Nat.lt_irrefl _)
  have loc0 : h₀.get? env.locals = none := Heap.get?_none_of_le F.above
  have F' : Fr h₀ env.locals h'' (fun z => if z = y then some (.ref D) else m z) :=
    ⟨hns, fun b o q => hk2 b o (fun e => by rw [e, loc0] at q; cases q) (hlt (F.keep _ _ q)) (hk _ _ (fun hm => by rw [hc0 b hm] at q; cases q) (F.keep _ _ q)), F.above⟩
  refine fin D ys h'' tk' (hJ _ _ _ _ hJn fun b hb o q => hk2 b o (fun e => hcL (e ▸ hb)) (fun e => Nat.lt_irrefl _ (Nat.lt_of_lt_of_le (e ▸ (hch b hb).1) hC')) q) F' (fun l hl' p hp => ?_) fun p hp => Nat.lt_of_lt_of_le (Heap.lt_size (N p hp).1) hDs
  rcases List.mem_cons.mp hp with rfl | hp
  · exact ⟨hk2 _ _ hDL hDC' hD, hDL, none0⟩
  · obtain ⟨h1, h2⟩ := hl' p hp
    exact ⟨hk2 _ _ (N p h1).2.1 (hlt (N p h1).1) (hk _ _ h2 (N p h1).1), (N p h1).2⟩
theorem zip_srcN {R : Addr} {rvs : List Value} {xs : List Str} {e : List Nat} {te : Tok} {elt : Expr} {ifs : List Expr} {x x₂ : Str} {scope : Scope} {cl : List (Str × Addr)} {Q : Value → Shared → Prop} (J : Nat → List Value → Heap → Prop)
    (hh : A.handled = none) (hl : s.heap.IsList R rvs.toArray) (S : StrsAre rvs xs) (he : ∀ c ∈ e, c < 128) (hz : rvs.length ≤ 1000)
    (hJ : ∀ i ys h h', J i ys h → J i ys h') (hJ0 : J 0 [] s.heap)
    (turn : ∀ i (y : Str) ty (c : Nat) tc ys C m₂ (s₂ : Shared) E', xs[i]? = some y → e[i]? = some c → ys.length ≤ i → J i ys s₂.heap → s.heap.objs.size ≤ C → s₂.heap.Ns (compEnvC scope cl C env).locals m₂ → m₂ x = some (.str y ty) → m₂ x₂ = some (.str (mkS [c]) tc) →
      (∃ h' tk, s₂ = { s with heap := h', toks := tk }) → (∀ b o, s.heap.get? b = some o → s₂.heap.get? b = some o) →
      wpAny (model prog w) A (testsOf ifs (compEnvC scope cl C env)) (fun ok s₃ => Keeps s₂ s₃ ∧ if ok = true then wpAny (model prog w) A (eval elt (compEnvC scope cl C env)) (fun y s₄ => KeepsBut [] s₃ s₄ ∧ J (i + 1) (ys ++ [y]) s₄.heap) E' s₃ else J (i + 1) ys s₃.heap) E' s₂)
    {h₀ : Heap} {L : Addr} {m : Str → Option Value} {news : List (Addr × Obj)} (F : Fr h₀ L s.heap m) (N : News h₀ L s.heap news)
    (fin : ∀ D ys h' tk, J (min xs.length e.length) ys h' → Fr h₀ L h' m → News h₀ L h' ((D, W.listOf ys.toArray ys.length) :: news) → (∀ p ∈ news, p.1 < D) →
      Q (.ref D) { s with heap := h', toks := tk }) :
    wpAny (model prog w) A (call (.type "zip") [.ref R, .str (mkS e) te]) (fun xv s₁ => Hold (ZSrc prog w A env elt x x₂ ifs scope cl Q xv s₁)) E s := by
  refine zip_src [] J hh hl S he hz (fun b hb => nomatch hb) (fun i ys h h' hj _ => hJ i ys h h' hj) hJ0 (fun i y ty c tc ys C m₂ s₂ E' a1 a2 a3 a4 a5 a6 a7 a8 a9 a10 => turn i y ty c tc ys C m₂ s₂ E' a1 a2 a3 a4 a5 a6 a7 a8 a9 fun b o q => a10 b o (List.not_mem_nil) q) ?_
  intro D ys h' tk hJn hk hD hDs
  have hk : ∀ b o, s.heap.get? b = some o → h'.get? b = some o := fun b o q => hk b o (List.not_mem_nil) q
  have hDL : D ≠ L := fun e => Nat.lt_irrefl _ (Nat.lt_of_lt_of_le (e ▸ F.ns.lt) hDs)
  have none0 : h₀.get? D = none := by
    cases q : h₀.get? D with
    | none => rfl
    | some o => exact absurd (Nat.lt_of_lt_of_le (Heap.lt_size (F.keep _ _ q)) hDs) (Nat.lt_irrefl _)
  refine fin D ys h' tk hJn (keepsFr F hk) (fun p hp => ?_) fun p hp => Nat.lt_of_lt_of_le (Heap.lt_size (N p hp).1) hDs
  rcases List.mem_cons.mp hp with rfl | hp
  · exact ⟨hD, hDL, none0⟩
  · exact ⟨hk _ _ (N p hp).1, (N p hp).2⟩
theorem keepsFrBut {h₀ h h' : Heap} {L Se : Addr} {m : Str → Option Value} {o₀ : Obj} {news : List (Addr × Obj)} (F : Fr h₀ L h m) (N : News h₀ L h news) (hm : (Se, o₀) ∈ news) (hk : ∀ b o, b ∉ [Se] → h.get? b = some o → h'.get? b = some o) : Fr h₀ L h' m := by
  have h1 := (N _ hm).2.1
  have h2 := (N _ hm).2.2
  exact ⟨F.ns.at' fun o q => hk _ o (fun e => h1 (List.mem_singleton.mp e).symm) q, fun b o q => hk _ _ (fun e => by rw [List.mem_singleton.mp e, h2] at q; cases q) (F.keep b o q), F.above⟩
theorem keepsNewsBut {h₀ h h' : Heap} {L Se : Addr} {news l : List (Addr × Obj)} (N : News h₀ L h news) (hl : ∀ p ∈ l, p ∈ news ∧ p.1 ≠ Se) (hk : ∀ b o, b ∉ [Se] → h.get? b = some o → h'.get? b = some o) : News h₀ L h' l :=
  fun p hp => ⟨hk _ _ (fun e => (hl p hp).2 (List.mem_singleton.mp e)) (N p (hl p hp).1).1, (N p (hl p hp).1).2⟩
end
end Mine
-- part Pj2
namespace Mine
def rowS (n : Nat) : Str := mkS (List.replicate n 46)
def mailJ (r : List Nat) : Str := Txt.join (Str.ofString "\x0d\n") (r.map rowS)
def sentR (c : Nat) (rows ends : List Nat) : List Nat := ((rows.zip ends).filter fun p => p.2 == c).map (·.1)
def stepR (c : Nat) (rows ends : List Nat) : List Nat := (rows.zip ends).map fun p => if p.2 = c then p.1 + 1 else p.1
def rowsK (c : Nat) (l : List Nat) : Nat → List Nat
  | 0 => List.replicate 7 1
  | k + 1 => stepR c (rowsK c l k) (l.drop k)
def splitJ (r : List Nat) : List Str := if r = [] then [mkS []] else (r.map (· + 1)).map rowS
structure QuoteJ (r : List Nat) : Prop where
  q2 : subAll code2 (mailJ r).cps crlf = some (mailJ r)
  q1 : subAll code1 (mailJ r).cps dots = some (mailJ (r.map (· + 1)))
  sp : Txt.split (mailJ (r.map (· + 1))) crlf = splitJ r
  s0 : (mailJ r).length ≤ 200
  s1 : (mailJ (r.map (· + 1))).length ≤ 200
theorem sentR_len (c : Nat) (rows ends : List Nat) : (sentR c rows ends).length ≤ rows.length := by
  unfold sentR
  rw [List.length_map]
  refine Nat.le_trans (List.length_filter_le _ _) ?_
  rw [List.length_zip]; omega
theorem stepR_len (c : Nat) (rows ends : List Nat) : (stepR c rows ends).length = min rows.length ends.length := by
  unfold stepR
  rw [List.length_map, List.length_zip]
theorem rowsK_len (c : Nat) {l : List Nat} (hl : l.length = 7) : ∀ k, k ≤ 7 → (rowsK c l (k + 1)).length = 7 - k ∧ (rowsK c l 0).length = 7
  | 0, _ => ⟨by rw [rowsK, stepR_len]; simp [rowsK, hl], by simp [rowsK]⟩
  | k + 1, h => by
    refine ⟨?_, by simp [rowsK]⟩
    rw [rowsK, stepR_len, (rowsK_len c hl k (by omega)).1, List.length_drop, hl]; omega
end Mine
-- part Lz2
namespace Mine
section
variable {prog : Program} {w : World} {A : Around} {E : Value → Shared → Prop} {s : Shared} {h₀ : Heap} {L D : Addr} {m : Str → Option Value} {news l : List (Addr × Obj)}
theorem pop_first {q : List Value} {y : Value} {n : Nat} {u : Tok} {Q : Value → Shared → Prop} (ho : s.heap.get? D = some (W.listOf (y :: q).toArray n)) (hz : q.length ≤ 1000)
    (h : ∀ h', (∀ b o, b ≠ D → s.heap.get? b = some o → h'.get? b = some o) → h'.get? D = some (W.listOf q.toArray (n + 1)) → Q y { s with heap := h' }) :
    wpAny (model prog w) A (call (.builtin "list.pop") [.ref D, .int 0 u]) Q E s := by
  have hz' : (y :: q).toArray.size ≤ sizeLine := by rw [List.size_toArray, sizeLine_eq, List.length_cons]; omega
  have hk : seqIndex? 0 (y :: q).toArray.size = some 0 := by
    unfold seqIndex?
    simp
  have er : (y :: q).toArray.eraseIdxIfInBounds 0 = q.toArray := kl_erase [] q y
  refine call_meets PySem.F.slot_list_pop ⟨_, ho, rfl⟩ PySem.F.entry_list_pop (PySem.F.args_list_pop_2 _ _) (PySem.MeetsSeq.list_pop_at D _ n 0 u 0 y (by decide) hk (by simp) hz') ⟨ho, h _ (fun b o hb e => ?_) ?_⟩
  · exact (Heap.SameBut.update ..).extBut _ _ hb e
  · have z := PySem.IsL.update ho (fun xs => xs.eraseIdxIfInBounds 0)
    rw [er, if_neg (by simp)] at z
    exact z
theorem append_L {vs : List Value} {n : Nat} {v : Value} {Q : Value → Shared → Prop} (F : Fr h₀ L s.heap m) (N : News h₀ L s.heap news) (hm : (D, W.listOf vs.toArray n) ∈ news) (l : List (Addr × Obj)) (hl : ∀ p ∈ l, p ∈ news ∧ p.1 ≠ D) (hz : vs.length ≤ 100000)
    (h : ∀ h', Fr h₀ L h' m → News h₀ L h' ((D, W.listOf (vs ++ [v]).toArray (n + 1)) :: l) → Q .none { s with heap := h' }) :
    wpAny (model prog w) A (call (.builtin "list.append") [.ref D, v]) Q E s := by
  have z := N _ hm
  refine append_at (hsz := by rw [List.size_toArray, sizeLine_eq]; omega) z.1 fun h' hs hD => h h' (F.change hs z.2.1 z.2.2) fun p hp => ?_
  rcases List.mem_cons.mp hp with rfl | hp
  · refine ⟨hD.trans ?_, z.2⟩
    have e : (vs ++ [v]).toArray = vs.toArray.push v := by simp
    rw [e]
  · obtain ⟨h1, h2⟩ := hl p hp
    exact ⟨hs.extBut _ _ h2 (N p h1).1, (N p h1).2⟩
end
section
variable {M : Model} {A : Around} {E : Value → Shared → Prop} {s : Shared} {h₀ : Heap} {L a : Addr} {m : Str → Option Value} {cn : Str} {cs : Scope} {ccd : Value} {cl : List (Str × Addr)}
  {x : Str} {v : Value} {Q : Unit → Shared → Prop} {news : List (Addr × Obj)} {c : Addr} {o : Obj} {v₀ : Option Value}
theorem store_C_L (l : List (Addr × Obj)) (F : Fr h₀ L s.heap m) (N : News h₀ L s.heap news) (hc : cl.lookup x = some c) (hm : (c, o) ∈ news) (hd : o.data = .cell v₀) (hl : ∀ p ∈ l, p ∈ news ∧ p.1 ≠ c)
    (h : ∀ h' o', Fr h₀ L h' m → News h₀ L h' ((c, o') :: l) → o'.data = .cell (some v) → Q () { s with heap := h' })
    (hk : cs.kind = .function := by rfl) (hx : (envX cn cs L a ccd cl).kindOf x = some .cell := by rfl) : wpAny M A (storeName (envX cn cs L a ccd cl) x v) Q E s := by
  have hmem := N (c, o) hm
  refine wpAny_storeName_cell hk hx hc ⟨o, hmem.1, hd⟩ fun h' hv hs => ?_
  obtain ⟨o', ho', hd'⟩ := hv
  refine h h' o' ⟨F.ns.sameBut hs (Ne.symm hmem.2.1), fun b ob e => (hs.2 b (fun q => ?_)).trans (F.keep b ob e), F.above⟩ (fun p hp => ?_) hd'
  · rw [q, hmem.2.2] at e; cases e
  · rcases List.mem_cons.mp hp with rfl | hp
    · exact ⟨ho', hmem.2⟩
    · obtain ⟨g1, g2⟩ := hl p hp
      exact ⟨(hs.2 _ g2).trans (N p g1).1, (N p g1).2⟩
end
theorem news_cons {h₀ h : Heap} {L a : Addr} {o : Obj} {l : List (Addr × Obj)} (h1 : h.get? a = some o) (h2 : a ≠ L ∧ h₀.get? a = none) (N : News h₀ L h l) : News h₀ L h ((a, o) :: l) := by
  intro p hp
  rcases List.mem_cons.mp hp with rfl | hp
  · exact ⟨h1, h2⟩
  · exact N p hp
/-- an address above a ledger -/
structure Above9 (D : Addr) (news : List (Addr × Obj)) : Prop where
  out : ∀ p ∈ news, p.1 < D
theorem one_eq {e c : Nat} (h : (mkS [e] == mkS [c]) = true) : e = c := by
  have := eq_of_beq h
  simpa [mkS] using this
theorem one_ne {e c : Nat} (h : (mkS [e] == mkS [c]) = false) : e ≠ c := fun q => by subst q; simp at h
def sentK (c : Nat) (rows ends : List Nat) (k : Nat) : List Nat := (((rows.zip ends).take k).filter fun p => p.2 == c).map (·.1)
def restK (c : Nat) (rows ends : List Nat) (k : Nat) : List Nat := (((rows.zip ends).drop k).filter fun p => p.2 == c).map (·.1)
def stepK (c : Nat) (rows ends : List Nat) (k : Nat) : List Nat := ((rows.zip ends).take k).map fun p => if p.2 = c then p.1 + 1 else p.1
theorem zip_at {rows ends : List Nat} {k e : Nat} {y : Str} (hy : (rows.map rowS)[k]? = some y) (he : ends[k]? = some e) : ∃ n, y = rowS n ∧ (rows.zip ends)[k]? = some (n, e) := by
  rw [List.getElem?_map] at hy
  cases h : rows[k]? with
  | none => rw [h] at hy; cases hy
  | some n =>
    rw [h] at hy; cases hy
    exact ⟨n, rfl, List.getElem?_zip_eq_some.mpr ⟨h, he⟩⟩
section
variable {c : Nat} {rows ends : List Nat} {k n e : Nat}
theorem sentK_yes (h : (rows.zip ends)[k]? = some (n, e)) (hc : e = c) : sentK c rows ends (k + 1) = sentK c rows ends k ++ [n] := by
  unfold sentK; rw [List.take_add_one, h]; simp [hc]
theorem sentK_no (h : (rows.zip ends)[k]? = some (n, e)) (hc : e ≠ c) : sentK c rows ends (k + 1) = sentK c rows ends k := by
  unfold sentK; rw [List.take_add_one, h]; simp [hc]
theorem drop_at {α : Type} {l : List α} {a : α} (h : l[k]? = some a) : l.drop k = a :: l.drop (k + 1) := by
  obtain ⟨hlt, e⟩ := List.getElem?_eq_some_iff.mp h
  rw [List.drop_eq_getElem_cons hlt, e]
theorem restK_yes (h : (rows.zip ends)[k]? = some (n, e)) (hc : e = c) : restK c rows ends k = n :: restK c rows ends (k + 1) := by
  unfold restK; rw [drop_at h]; simp [hc]
theorem restK_no (h : (rows.zip ends)[k]? = some (n, e)) (hc : e ≠ c) : restK c rows ends k = restK c rows ends (k + 1) := by
  unfold restK; rw [drop_at h]; simp [hc]
theorem stepK_yes (h : (rows.zip ends)[k]? = some (n, e)) (hc : e = c) : stepK c rows ends (k + 1) = stepK c rows ends k ++ [n + 1] := by
  unfold stepK; rw [List.take_add_one, h]; simp [hc]
theorem stepK_no (h : (rows.zip ends)[k]? = some (n, e)) (hc : e ≠ c) : stepK c rows ends (k + 1) = stepK c rows ends k ++ [n] := by
  unfold stepK; rw [List.take_add_one, h]; simp [hc]
theorem sentK_end {N : Nat} (h : N = min rows.length ends.length) : sentK c rows ends N = sentR c rows ends := by
  unfold sentK sentR; rw [List.take_of_length_le (by rw [List.length_zip]; omega)]
theorem stepK_end {N : Nat} (h : N = min rows.length ends.length) : stepK c rows ends N = stepR c rows ends := by
  unfold stepK stepR; rw [List.take_of_length_le (by rw [List.length_zip]; omega)]
theorem restK_zero : restK c rows ends 0 = sentR c rows ends := by
  unfold restK sentR; rw [List.drop_zero]
theorem zero_sent : sentK c rows ends 0 = [] := by unfold sentK; rw [List.take_zero]; rfl
theorem zero_step : stepK c rows ends 0 = [] := by unfold stepK; rw [List.take_zero]; rfl
end
theorem strs_snoc {vs : List Value} {xs : List Str} (h : StrsAre vs xs) (c : Str) (t : Tok) : StrsAre (vs ++ [.str c t]) (xs ++ [c]) := app_S h (.cons c t .nil)
theorem rows_snoc {vs : List Value} {r : List Nat} (h : StrsAre vs (r.map rowS)) (n : Nat) (t : Tok) : StrsAre (vs ++ [.str (rowS n) t]) ((r ++ [n]).map rowS) := by
  rw [List.map_append]; exact strs_snoc h _ _
/-- what the list of the sent rows holds while it is emptied -/
def SentAt (c : Nat) (rows ends : List Nat) (Se : Addr) (k : Nat) (h : Heap) : Prop := ∃ vs n X, h.get? Se = some (W.listOf vs.toArray n) ∧ StrsAre vs X ∧ X.length ≤ 8 ∧ (restK c rows ends k ≠ [] → X = ((restK c rows ends k).map (· + 1)).map rowS)
theorem SentAt.frame {c : Nat} {rows ends : List Nat} {Se : Addr} {k : Nat} {h h' : Heap} (J : SentAt c rows ends Se k h) (hk : ∀ b ∈ [Se], ∀ o, h.get? b = some o → h'.get? b = some o) : SentAt c rows ends Se k h' := by
  obtain ⟨vs, n, X, h1, r⟩ := J
  exact ⟨vs, n, X, hk _ (List.mem_singleton.mpr rfl) _ h1, r⟩
theorem SentAt.no {c : Nat} {rows ends : List Nat} {Se : Addr} {k n e : Nat} {h : Heap} (J : SentAt c rows ends Se k h) (hz : (rows.zip ends)[k]? = some (n, e)) (hc : e ≠ c) : SentAt c rows ends Se (k + 1) h := by
  unfold SentAt at J ⊢
  rw [restK_no hz hc] at J
  exact J
theorem SentAt.yes {c : Nat} {rows ends : List Nat} {Se : Addr} {k n e : Nat} {h : Heap} (J : SentAt c rows ends Se k h) (hz : (rows.zip ends)[k]? = some (n, e)) (hc : e = c) :
    ∃ t q cap, h.get? Se = some (W.listOf (Value.str (rowS (n + 1)) t :: q).toArray cap) ∧ q.length ≤ 8 ∧ ∀ h', h'.get? Se = some (W.listOf q.toArray (cap + 1)) → SentAt c rows ends Se (k + 1) h' := by
  obtain ⟨vs, cap, X, h1, h2, h3, h4⟩ := J
  have e1 := restK_yes hz hc
  rw [e1] at h4
  have hX := h4 (by simp)
  subst hX
  cases h2 with
  | cons x t r =>
    refine ⟨t, _, cap, h1, ?_, fun h' g => ⟨_, _, _, g, r, ?_, fun _ => rfl⟩⟩
    · have := r.length; simp only [List.length_map, List.length_cons] at h3 this; omega
    · simp only [List.length_map, List.length_cons] at h3 ⊢; omega
def spS (n : Nat) : Str := mkS (List.replicate n 32)
def leadS (n : Nat) : Str := mkS (List.replicate n 32 ++ [9])
theorem rep_all : (List.range 9).all (fun n => Txt.replace (rowS n) (Str.ofString ".") (Str.ofString " ") == spS n) = true := by decide +kernel
theorem rep_row {n : Nat} (h : n ≤ 8) : Txt.replace (rowS n) (Str.ofString ".") (Str.ofString " ") = spS n :=
  beq_iff_eq.mp (List.all_eq_true.mp rep_all n (List.mem_range.mpr (by omega)))
theorem sp_tab (n : Nat) : spS n ++ Str.ofString "\t" = leadS n := by
  have e : Str.ofString "\t" = mkS [9] := by decide
  rw [e]; exact mkS_app _ _
theorem rowsK_le (c : Nat) (l : List Nat) : ∀ k, ∀ n ∈ rowsK c l k, n ≤ k + 1
  | 0, n, h => by rw [(List.mem_replicate.mp h).2]; exact Nat.le_refl _
  | k + 1, n, h => by
    unfold rowsK stepR at h
    obtain ⟨p, hp, rfl⟩ := List.mem_map.mp h
    have := rowsK_le c l k p.1 (List.of_mem_zip hp).1
    split <;> omega
theorem lead_join (r : List Nat) : Txt.join (Str.ofString "") (r.map leadS) = leadOf r := by
  have e : Str.ofString "" = ⟨#[]⟩ := by decide
  rw [e]
  have := join_mkS (r.map fun n => List.replicate n 32 ++ [9])
  rw [List.map_map] at this
  exact this
theorem lead_sum {r : List Nat} {N : Nat} (h : ∀ n ∈ r, n ≤ N) : ((r.map leadS).map (·.length)).sum ≤ r.length * (N + 1) := by
  induction r with
  | nil => exact Nat.zero_le _
  | cons n r ih =>
    have a := ih fun q hq => h q (List.mem_cons_of_mem _ hq)
    have b := h n (List.mem_cons_self ..)
    simp only [List.map_cons, List.sum_cons, List.length_cons]
    have c : (leadS n).length = n + 1 := by unfold leadS; rw [len_mkS]; simp
    rw [c, Nat.succ_mul]; omega
theorem leads_snoc {vs : List Value} {r : List Nat} {k n : Nat} (h : StrsAre vs ((r.take k).map leadS)) (hn : r[k]? = some n) (t : Tok) : StrsAre (vs ++ [.str (leadS n) t]) ((r.take (k + 1)).map leadS) := by
  rw [List.take_add_one, hn, List.map_append]
  exact strs_snoc h _ _
theorem leadTxt_len : ∀ {r : List Nat}, (∀ n ∈ r, n ≤ 8) → (leadTxt r).length ≤ r.length * 9
  | [], _ => Nat.zero_le _
  | n :: r, h => by
    have a := leadTxt_len (r := r) fun q hq => h q (List.mem_cons_of_mem _ hq)
    have b := h n (List.mem_cons_self ..)
    have e : leadTxt (n :: r) = List.replicate n 32 ++ ([9] ++ leadTxt r) := by
      unfold leadTxt; rw [List.map_cons, List.flatten_cons, List.append_assoc]
    rw [e, List.length_append, List.length_append, List.length_replicate, List.length_cons (a := n), Nat.succ_mul]
    show n + (1 + _) ≤ _
    omega
end Mine
-- part CompN
namespace Mine
section
variable {prog : Program} {w : World} {A : Around} {E : Value → Shared → Prop} {s : Shared} {env : Env}
structure NTurn (prog : Program) (w : World) (A : Around) (env : Env) (elt : Expr) (x : Str) (ifs : List Expr) (scope : Scope) (cl : List (Str × Addr)) (ch : List Addr) (its : Array Value) (J : Nat → List Value → Heap → Prop) (s₁ : Shared) : Prop where
  go : ∀ i v ys C m₂ s₂ E', its[i]? = some v → ys.length ≤ i → J i ys s₂.heap → s₁.heap.objs.size ≤ C → s₂.heap.Ns (compEnvC scope cl C env).locals m₂ → m₂ x = some v → (∃ h' tk, s₂ = { s₁ with heap := h', toks := tk }) → 1 ≤ s₂.toks →
    (∀ b o, b ∉ ch → s₁.heap.get? b = some o → s₂.heap.get? b = some o) →
    wpAny (model prog w) A (testsOf ifs (compEnvC scope cl C env)) (fun ok s₃ => Keeps s₂ s₃ ∧ if ok = true then wpAny (model prog w) A (eval elt (compEnvC scope cl C env)) (fun y s₄ => KeepsBut ch s₃ s₄ ∧ J (i + 1) (ys ++ [y]) s₄.heap) E' s₃ else J (i + 1) ys s₃.heap) E' s₂
def NSrc (prog : Program) (w : World) (A : Around) (env : Env) (elt : Expr) (x : Str) (ifs : List Expr) (scope : Scope) (cl : List (Str × Addr)) (Q : Value → Shared → Prop) (xv : Value) (s₁ : Shared) : Prop :=
  ∃ R its ch J, xv = .ref R ∧ A.handled = none ∧ 1 ≤ s₁.toks ∧ s₁.heap.IsList R its ∧ its.size ≤ 1000 ∧ (∀ b ∈ ch, b < s₁.heap.objs.size ∧ b ≠ R) ∧ (∀ i ys h h', J i ys h → (∀ b ∈ ch, ∀ o, h.get? b = some o → h'.get? b = some o) → J i ys h') ∧ J 0 [] s₁.heap ∧
    NTurn prog w A env elt x ifs scope cl ch its J s₁ ∧
    ∀ D ys h' tk, J its.size ys h' → (∀ b o, b ∉ ch → s₁.heap.get? b = some o → h'.get? b = some o) → h'.get? D = some (LCg.lst ys) → s₁.heap.objs.size ≤ D → 1 ≤ tk → Q (.ref D) { s₁ with heap := h', toks := tk }
theorem block_N {elt iter : Expr} {ifs : List Expr} {x : Str} {px : Pos} {scope : Scope} {cl : List (Str × Addr)} {pos : Pos} {s₀ s₂ : Shared} {I R : Addr} {its : Array Value} {ch : List Addr} {J : Nat → List Value → Heap → Prop}
    {RR : Value → Addr → Result → Shared → Prop} (hh : A.handled = none) (htk : 1 ≤ s₂.toks) (hRI : R ≠ I) (hsz : its.size ≤ 1000) (hst : s₂.heap.IsListIter I R 0 ∧ s₂.heap.IsList R its) (hIlt : I < s₂.heap.objs.size) (hRlt : R < s₂.heap.objs.size)
    (hch : ∀ b ∈ ch, b < s₂.heap.objs.size ∧ b ≠ R ∧ b ≠ I) (hJ : ∀ i ys h h', J i ys h → (∀ b ∈ ch, ∀ o, h.get? b = some o → h'.get? b = some o) → J i ys h') (hJ0 : J 0 [] s₂.heap)
    (hcell : ∀ y ∈ scope.names, y.2 ≠ .cell) (hkind : scope.kind = .function) (hx : scope.names.lookup x = some .local) (hs0 : ∃ h' tk, s₂ = { s₀ with heap := h', toks := tk }) (h0le : s₀.heap.objs.size ≤ s₂.heap.objs.size) (hI0 : s₀.heap.objs.size ≤ I) (h0 : ∀ b o, s₀.heap.get? b = some o → s₂.heap.get? b = some o)
    (T : NTurn prog w A env elt x ifs scope cl ch its J s₀)
    (hRR : ∀ D C h tk m' ys, J its.size ys h → (∀ b o, b ∉ ch → s₀.heap.get? b = some o → h.get? b = some o) → h.get? D = some (LCg.lst ys) → s₂.heap.objs.size ≤ D → s₂.heap.objs.size ≤ C → C ≠ D → h.Ns C m' → 1 ≤ tk → RR (.ref D) C (.ok .next) { s₂ with heap := h, toks := tk }) :
    wpAny (model prog w) A (newList []) (fun acc s₃ => wpAny (model prog w) A (newFunctionEnv scope env.globals cl [] env.qual none .none (some env)) (fun cenv s₄ =>
      codeAny (model prog w) A (.compStart (.ListComp elt [⟨.Name x px, iter, ifs, 0⟩] scope pos) 0 (.ref I) acc { cenv with scope := relabel scope env }) (RR acc cenv.locals) s₄) E s₃) E s₂ := by
  have W := Walks.list (prog := prog) (w := w) (A := A) hh I R hRI its
  have hfp : ∀ b ∈ [I, R], b < s₂.heap.objs.size := fun b hb => by
    rcases List.mem_cons.mp hb with rfl | hb
    · exact hIlt
    · rw [List.mem_singleton.mp hb]; exact hRlt
  refine wpAny_newObj_type (wpAny_newFunctionEnv hcell (by intro y hy; simp at hy) (fun h₁ hns₁ hsb₁ => ?_) hkind)
  dsimp only at hns₁ hsb₁ ⊢
  generalize hH2 : s₂.heap.push { cls := .type "list", dict := none, data := .seq ([] : List Value).toArray } = H2 at hns₁ hsb₁ ⊢
  have hC : H2.objs.size = s₂.heap.objs.size + 1 := by rw [← hH2, Heap.size_push]
  have hDC : s₂.heap.objs.size ≠ H2.objs.size := by rw [hC]; exact Nat.ne_of_lt (Nat.lt_succ_self _)
  have below : ∀ b, b < s₂.heap.objs.size → b ≠ H2.objs.size ∧ b ≠ s₂.heap.objs.size := fun b hb => ⟨by rw [hC]; exact Nat.ne_of_lt (Nat.lt_succ_of_lt hb), Nat.ne_of_lt hb⟩
  have hDf : s₂.heap.objs.size ∉ [I, R] := fun hm => Nat.lt_irrefl _ (hfp _ hm)
  have hCf : H2.objs.size ∉ [I, R] := fun hm => by have := hfp _ hm; rw [hC] at this; exact Nat.lt_irrefl _ (Nat.lt_of_succ_lt this)
  have hDw : s₂.heap.objs.size ∉ [I] := fun hm => hDf (W.sub _ hm)
  have hCw : H2.objs.size ∉ [I] := fun hm => hCf (W.sub _ hm)
  have hDc : s₂.heap.objs.size ∉ ch := fun hm => Nat.lt_irrefl _ (hch _ hm).1
  have hCc : H2.objs.size ∉ ch := fun hm => by have := (hch _ hm).1; rw [hC] at this; exact Nat.lt_irrefl _ (Nat.lt_of_succ_lt this)
  have old : ∀ b o, s₂.heap.get? b = some o → h₁.get? b = some o := fun b o e => hsb₁.extBut b o (below b (Heap.lt_size e)).1 (Heap.get?_push_of_some _ (hH2 ▸ Heap.get?_push_of_some _ e))
  have hacc : h₁.get? s₂.heap.objs.size = some (LCg.lst []) := hsb₁.extBut _ _ hDC (Heap.get?_push_of_some _ (hH2 ▸ Heap.get?_push_size _ rfl))
  have hst₁ : h₁.IsListIter I R 0 ∧ h₁.IsList R its := W.frame _ _ _ hst fun b _ o e => old b o e
  have loop : ∀ s₃ : Shared, s₃ = { s₂ with heap := h₁, toks := s₂.toks + ([] : List (Str × Value)).length } →
      codeAny (model prog w) A (.compLoop (.ListComp elt [⟨.Name x px, iter, ifs, 0⟩] scope pos) 0 (.ref I) (.ref s₂.heap.objs.size) (compEnvC scope cl H2.objs.size env))
        (RR (.ref s₂.heap.objs.size) H2.objs.size) s₃ := by
    rintro s₃ rfl
    refine codeAny_compLoop_tests
      (fun k s' => ∃ h' tk i ys m', s' = { s₂ with heap := h', toks := tk } ∧ 1 ≤ tk ∧ i ≤ its.size ∧ k = its.size + 1 - i ∧ ys.length ≤ i ∧ (h'.IsListIter I R i ∧ h'.IsList R its) ∧ h'.Ns H2.objs.size m' ∧ h'.get? s₂.heap.objs.size = some (LCg.lst ys) ∧ J i ys h' ∧
        (∀ b o, b ∉ ch → s₀.heap.get? b = some o → h'.get? b = some o)) ?_ (its.size + 1)
      ⟨h₁, _, 0, [], _, rfl, htk, Nat.zero_le _, rfl, Nat.le_refl _, hst₁, hns₁, hacc, hJ _ _ _ _ hJ0 fun b _ o e => old b o e, fun b o _ e => old b o (h0 b o e)⟩
    rintro k s' ⟨h', tk, i, ys, m', rfl, htk', hi, rfl, hyl, hst', hn', hD', hJ', hk'⟩
    have old0 : ∀ b o, s₀.heap.get? b = some o → b ≠ I ∧ b ≠ H2.objs.size ∧ b ≠ s₂.heap.objs.size := fun b o e => ⟨fun q => Nat.lt_irrefl _ (Nat.lt_of_lt_of_le (q ▸ Heap.lt_size e) hI0), (below b (Nat.lt_of_lt_of_le (Heap.lt_size e) h0le)).1, (below b (Nat.lt_of_lt_of_le (Heap.lt_size e) h0le)).2⟩
    by_cases hlt : i < its.size
    · refine with_toksQ (n := 1) (s := { s₂ with heap := h', toks := tk }) htk' ?_
      refine W.item i _ _ _ hlt hst' fun v h₂ tk₂ hPv hst₂ hk₂ => ?_
      intro htk₂
      replace htk₂ : 1 ≤ tk₂ := htk₂
      replace hk₂ : ∀ b o, b ∉ [I] → h'.get? b = some o → h₂.get? b = some o := hk₂
      refine with_toksQ (n := 1) (s := { s₂ with heap := h₂, toks := tk₂ }) htk₂ ?_
      refine wpAny_assign_Name (wpAny_storeName_local (lookup_relabel_local hx) (hn'.at' fun o e => hk₂ _ o hCw e) (fun h₇ hn₇ hs₇ => ?_) (by simp [compEnvC, relabel, hkind]))
      intro htk₇
      have hst₇ : h₇.IsListIter I R (i + 1) ∧ h₇.IsList R its := W.frame _ _ _ hst₂ fun b hb o e => hs₇.extBut b o (fun q => hCf (by have q' : b = H2.objs.size := q; rw [← q']; exact hb)) e
      have up : ∀ b o, b ∉ [I] → b ≠ H2.objs.size → h'.get? b = some o → h₇.get? b = some o := fun b o hb hb2 e => hs₇.extBut b o hb2 (hk₂ _ _ hb e)
      have hJ₇ : J i ys h₇ := hJ _ _ _ _ hJ' fun b hb o e => up b o (fun q => (hch b hb).2.2 (List.mem_singleton.mp q)) (fun q => hCc (q ▸ hb)) e
      have hD₇ := up _ _ hDw hDC hD'
      have hk₇ : ∀ b o, b ∉ ch → s₀.heap.get? b = some o → h₇.get? b = some o := fun b o h2 e => up b o (fun q => (old0 b o e).1 (List.mem_singleton.mp q)) (old0 b o e).2.1 (hk' b o h2 e)
      obtain ⟨hh0, tt0, e0⟩ := hs0
      refine with_toksQ (n := 1) htk₇ ?_
      refine wpAny_mono (T.go i v ys H2.objs.size _ ⟨h₇, s₂.gens, s₂.drawn, _, s₂.os⟩ _ hPv hyl hJ₇ (Nat.le_trans h0le (by rw [hC]; exact Nat.le_succ _)) hn₇ (by simp) ⟨h₇, _, by rw [e0]⟩ htk₇ hk₇) (fun ok s₈ h₈ => ?_) fun _ _ e => e
      intro htk₈
      obtain ⟨⟨h₈', tk₈, rfl, k₈⟩, z⟩ := h₈
      replace k₈ : ∀ b o, h₇.get? b = some o → h₈'.get? b = some o := k₈
      replace htk₈ : 1 ≤ tk₈ := htk₈
      have hst₈ : h₈'.IsListIter I R (i + 1) ∧ h₈'.IsList R its := W.frame _ _ _ hst₇ fun b _ o e => k₈ b o e
      cases ok with
      | false =>
        simp only [Bool.false_eq_true, if_false] at z ⊢
        exact ⟨its.size + 1 - (i + 1), by omega, h₈', tk₈, i + 1, ys, _, rfl, htk₈, hlt, rfl, Nat.le_succ_of_le hyl, hst₈, hn₇.at' fun o e => k₈ _ o e, k₈ _ _ hD₇, z, fun b o h2 e => k₈ _ _ (hk₇ b o h2 e)⟩
      | true =>
        simp only [if_true] at z ⊢
        refine with_toksQ (n := 1) (s := ⟨h₈', s₂.gens, s₂.drawn, tk₈, s₂.os⟩) htk₈ ?_
        refine wpAny_mono z (fun y s₉ h₉ => ?_) fun _ _ e => e
        intro htk₉
        obtain ⟨⟨h₉', tk₉, rfl, k₉⟩, hJ₉⟩ := h₉
        replace k₉ : ∀ b o, b ∉ ch → h₈'.get? b = some o → h₉'.get? b = some o := k₉
        replace hJ₉ : J (i + 1) (ys ++ [y]) h₉' := hJ₉
        replace htk₉ : 1 ≤ tk₉ := htk₉
        have hst₉ : h₉'.IsListIter I R (i + 1) ∧ h₉'.IsList R its := W.frame _ _ _ hst₈ fun b hb o e => k₉ b o (fun q => by
          rcases List.mem_cons.mp hb with hb | hb
          · exact (hch b q).2.2 hb
          · exact (hch b q).2.1 (List.mem_singleton.mp hb)) e
        have hD₉ : h₉'.get? s₂.heap.objs.size = some (LCg.lst ys) := k₉ _ _ hDc (k₈ _ _ hD₇)
        refine append_at (s := ⟨h₉', s₂.gens, s₂.drawn, tk₉, s₂.os⟩) (hsz := by show ys.toArray.size ≤ sizeLine; rw [List.size_toArray, sizeLine_eq]; omega) hD₉ fun h₁₀ hs₁₀ hD₁₀ => ?_
        refine ⟨its.size + 1 - (i + 1), by omega, h₁₀, tk₉, i + 1, ys ++ [y], _, rfl, htk₉, hlt, rfl, by rw [List.length_append, List.length_singleton]; omega, W.frame _ _ _ hst₉ fun b hb o e => hs₁₀.extBut b o (fun q => hDf (q ▸ hb)) e,
          ((hn₇.at' fun o e => k₉ _ o hCc (k₈ _ o e)).sameBut hs₁₀ (Ne.symm hDC)), hD₁₀.trans (congrArg some (LCg.lst_snoc ys y)), hJ _ _ _ _ hJ₉ fun b hb o e => hs₁₀.extBut b o (fun q => hDc (q ▸ hb)) e, fun b o h2 e => ?_⟩
        exact hs₁₀.extBut _ _ (old0 b o e).2.2 (k₉ _ _ h2 (k₈ _ _ (hk₇ b o h2 e)))
    · obtain rfl : i = its.size := Nat.le_antisymm hi (Nat.not_lt.mp hlt)
      refine with_toksQ (n := 1) (s := { s₂ with heap := h', toks := tk }) htk' ?_
      refine W.done _ _ _ hst' fun h₂ tk₂ hk₂ => ?_
      intro htk₂
      replace hk₂ : ∀ b o, b ∉ [I] → h'.get? b = some o → h₂.get? b = some o := hk₂
      exact hRR _ _ h₂ tk₂ _ ys (hJ _ _ _ _ hJ' fun b hb o e => hk₂ b o (fun q => (hch b hb).2.2 (List.mem_singleton.mp q)) e) (fun b o h2 e => hk₂ _ _ (fun q => (old0 b o e).1 (List.mem_singleton.mp q)) (hk' b o h2 e)) (hk₂ _ _ hDw hD') (Nat.le_refl _) (by rw [hC]; exact Nat.le_succ _) (Ne.symm hDC) (hn'.at' fun o e => hk₂ _ o hCw e) htk₂
  exact codeAny_compStart_list (loop _ rfl) (W.self 0 _ _ _ hst₁ (loop _ rfl))
theorem ListComp_N {elt iter : Expr} {ifs : List Expr} {x : Str} {px : Pos} {scope : Scope} {cl : List (Str × Addr)} {pos : Pos} {Q : Value → Shared → Prop}
    (hclos : closureFor scope env = pure cl) (hcell : ∀ y ∈ scope.names, y.2 ≠ .cell) (hkind : scope.kind = .function)
    (hnames : ∀ y ∈ scope.names, y.2 = .local → scope.names.lookup y.1 = some .local) (hx : scope.names.lookup x = some .local)
    (h : wpAny (model prog w) A (eval iter env) (fun xv s₁ => Hold (NSrc prog w A env elt x ifs scope cl Q xv s₁)) E s)
    (hs : ∀ x, foldedSetIterable iter env x = pure x := by intro _; rfl) :
    wpAny (model prog w) A (eval (.ListComp elt [⟨.Name x px, iter, ifs, 0⟩] scope pos) env) Q E s := by
  rw [eval_ListComp]
  refine wpAny_comprehension_free (use := none) rfl hs hclos hkind hnames (wpAny_mono h (fun xv s₁ h₁ => ?_) fun _ _ e => e)
  obtain ⟨R, its, ch, J, rfl, hh, htk, hl, hsz, hch, hJ, hJ0, T, fin⟩ := h₁.out
  have hR : R < s₁.heap.objs.size := by obtain ⟨_, e, _⟩ := hl; exact Heap.lt_size e
  refine wpAny_pyIter_list hl ?_
  have up : ∀ b o, s₁.heap.get? b = some o → (s₁.heap.push { cls := .type "list_iterator", data := .fields #[.ref R, .int 0 0] }).get? b = some o := fun b o e => Heap.get?_push_of_some _ e
  have z1 : (s₁.heap.push { cls := .type "list_iterator", data := .fields #[.ref R, .int 0 0] }).objs.size = s₁.heap.objs.size + 1 := Heap.size_push ..
  refine block_N (s₀ := s₁) (I := s₁.heap.objs.size) (R := R) hh htk (Nat.ne_of_lt hR) hsz ⟨⟨_, Heap.get?_push_size _ rfl, rfl, rfl⟩, hl.push _⟩ (by show _ < (s₁.heap.push _).objs.size; rw [z1]; exact Nat.lt_succ_self _) (by show _ < (s₁.heap.push _).objs.size; rw [z1]; exact Nat.lt_succ_of_lt hR)
    (fun b hb => ⟨by show b < (s₁.heap.push _).objs.size; rw [z1]; exact Nat.lt_succ_of_lt (hch b hb).1, (hch b hb).2, Nat.ne_of_lt (hch b hb).1⟩) hJ (hJ _ _ _ _ hJ0 fun b _ o e => up b o e) hcell hkind hx ⟨_, _, rfl⟩ (by show _ ≤ (s₁.heap.push _).objs.size; rw [z1]; exact Nat.le_succ _) (Nat.le_refl _) up T ?_
  intro D C h tk m' ys hJn hk hD hDs hCs hCD hn htk'
  have hCs' : s₁.heap.objs.size ≤ C := Nat.le_trans (by show _ ≤ (s₁.heap.push _).objs.size; rw [z1]; exact Nat.le_succ _) hCs
  refine ⟨m', hn, fun h'' hs'' => fin D ys h'' tk (hJ _ _ _ _ hJn fun b hb o e => hs''.extBut b o (fun q => Nat.lt_irrefl _ (Nat.lt_of_lt_of_le (q ▸ (hch b hb).1) hCs')) e) (fun b o h2 e => hs''.extBut b o (fun q => Nat.lt_irrefl _ (Nat.lt_of_lt_of_le (q ▸ Heap.lt_size e) hCs')) (hk b o h2 e)) (hs''.extBut _ _ (Ne.symm hCD) hD) (Nat.le_trans (by show _ ≤ (s₁.heap.push _).objs.size; rw [z1]; exact Nat.le_succ _) hDs) htk'⟩
theorem list_src {R : Addr} {rvs : List Value} {xs : List Str} {n : Nat} {elt : Expr} {ifs : List Expr} {x : Str} {scope : Scope} {cl : List (Str × Addr)} {Q : Value → Shared → Prop} {h₀ : Heap} {L : Addr} {m : Str → Option Value} {news : List (Addr × Obj)} (J : Nat → List Value → Prop)
    (hh : A.handled = none) (htk : 1 ≤ s.toks) (F : Fr h₀ L s.heap m) (N : News h₀ L s.heap news) (hm : (R, W.listOf rvs.toArray n) ∈ news) (S : StrsAre rvs xs) (hz : rvs.length ≤ 1000) (hJ0 : J 0 [])
    (turn : ∀ i (y : Str) ty ys C m₂ (s₂ : Shared) E', xs[i]? = some y → J i ys → s.heap.objs.size ≤ C → s₂.heap.Ns (compEnvC scope cl C env).locals m₂ → m₂ x = some (.str y ty) → Fr h₀ L s₂.heap m → News h₀ L s₂.heap news → 1 ≤ s₂.toks →
      (∃ h' tk, s₂ = { s with heap := h', toks := tk }) → (∀ b o, s.heap.get? b = some o → s₂.heap.get? b = some o) →
      wpAny (model prog w) A (testsOf ifs (compEnvC scope cl C env)) (fun ok s₃ => Keeps s₂ s₃ ∧ if ok = true then wpAny (model prog w) A (eval elt (compEnvC scope cl C env)) (fun y s₄ => Keeps s₃ s₄ ∧ J (i + 1) (ys ++ [y])) E' s₃ else J (i + 1) ys) E' s₂)
    (fin : ∀ D ys h' tk, J rvs.length ys → Fr h₀ L h' m → News h₀ L h' ((D, W.listOf ys.toArray ys.length) :: news) → (∀ p ∈ news, p.1 < D) → 1 ≤ tk → Q (.ref D) { s with heap := h', toks := tk }) :
    Hold (NSrc prog w A env elt x ifs scope cl Q (.ref R) s) := by
  refine Hold.go ⟨R, rvs.toArray, [], fun i ys _ => J i ys, rfl, hh, htk, News.isList N hm, by rw [List.size_toArray]; exact hz, (fun _ hb => nomatch hb), fun _ _ _ _ h _ => h, hJ0, ⟨?_⟩, ?_⟩
  · intro i v ys C m₂ s₂ E' hv _ hJ hC hns hmx hs htk2 hk
    have hk : ∀ b o, s.heap.get? b = some o → s₂.heap.get? b = some o := fun b o q => hk b o List.not_mem_nil q
    obtain ⟨y, ty, hy, rfl⟩ := strs_get S i v hv
    refine wpAny_mono (turn i y ty ys C m₂ s₂ E' hy hJ hC hns hmx (keepsFr F hk) (keepsNews N hk) htk2 hs hk) (fun ok s₃ z => ⟨z.1, ?_⟩) fun _ _ e => e
    cases ok with
    | false => exact z.2
    | true =>
      have z2 := z.2
      simp only [if_true] at z2 ⊢
      refine wpAny_mono z2 (fun y s₄ q => ⟨?_, q.2⟩) fun _ _ e => e
      obtain ⟨h', tk, e, k⟩ := q.1
      exact ⟨h', tk, e, fun b o _ q => k b o q⟩
  · intro D ys h' tk hJn hk hD hDs htk'
    have hk : ∀ b o, s.heap.get? b = some o → h'.get? b = some o := fun b o q => hk b o List.not_mem_nil q
    have hDL : D ≠ L := fun e => Nat.lt_irrefl _ (Nat.lt_of_lt_of_le (e ▸ F.ns.lt) hDs)
    have none0 : h₀.get? D = none := by
      cases q : h₀.get? D with
      | none => rfl
      | some o => exact absurd (Nat.lt_of_lt_of_le (Heap.lt_size (F.keep _ _ q)) hDs) (Nat.lt_irrefl _)
    rw [List.size_toArray] at hJn
    refine fin D ys h' tk hJn (keepsFr F hk) (fun p hp => ?_) (fun p hp => Nat.lt_of_lt_of_le (Heap.lt_size (N p hp).1) hDs) htk'
    rcases List.mem_cons.mp hp with rfl | hp
    · exact ⟨hD, hDL, none0⟩
    · exact ⟨hk _ _ (N p hp).1, (N p hp).2⟩
end
end Mine
-- part Kl2
namespace Mine
section
theorem off_Kl2 : True := by w_top off; trivial
local macro_rules | `(tactic| walk_at "pyIter ref") => `(tactic| ((with_reducible show wpAny _ _ (pyIter (Value.ref _)) (fun it s₂ => LoopAtV _ _ _ _ _ _ _ _ _ it s₂) _ _); k_here; refine Hold.stop ?_))
local macro_rules | `(tactic| walk_at "exec For Name Call cons nil") => `(tactic| (k_here; (rename Fr _ _ _ _ => lF'); (with_unfolding_all refine' For_invVF lF' (by exact rfl) (by exact rfl) ?_; k_whole)))
local macro_rules | `(tactic| walk_at "eval ListComp Name cons") => `(tactic| ((with_reducible show wpAny _ _ (eval (Expr.ListComp _ [Comprehension.mk (Expr.Tuple _ _ _) _ _ _] _ _) _) _ _ _); k_here; refine Hold.stop ?_))
local macro_rules | `(tactic| walk_at "exec Assign cons ListComp") => `(tactic| ((with_reducible show wpAny _ _ (exec (Stmt.Assign _ (Expr.ListComp _ [Comprehension.mk (Expr.Tuple _ _ _) _ _ _] _ _) _) _) _ _ _); k_here; refine Hold.stop ?_))
local macro_rules | `(tactic| walk_at "call type:zip") => `(tactic| (k_here; refine Hold.stop ?_))
local macro_rules | `(tactic| walk_at "call type:zip cons cons") => `(tactic| (k_here; refine Hold.stop ?_))
theorem seven_size {l : List Nat} (h : l.length = 7) : (mkS l).length ≤ sizeLine := by
  rw [len_mkS, h]; decide
local macro_rules | `(tactic| walk_at "subscriptTail Name Slice str ref") => `(tactic| ((with_reducible show wpAny _ _ (subscriptTail _ (Expr.Slice (some _) none none _) _ _) _ _ _); (with_reducible rename Fr _ _ _ _ => F'); (with_reducible rename News _ _ _ _ => N'); (refine slice_strN_sn_len (hsz := seven_size (by assumption)) (s := ⟨_, _, _, _, _⟩) F' N' ?_); intro _ _ _ _ _ _; ((with_reducible rename Txt.slice (mkS _) (some _) none = mkS _ => es9); rw [es9])))
theorem slice_drop {l : List Nat} {i : Nat} (h : i ≤ l.length) : Txt.slice (mkS l) (some (0 + (i : Int))) none = mkS (l.drop i) := by
  rw [show (0 + (i : Int)) = (i : Int) by omega]; exact slice_from h
structure LdS where
  R : Addr
  rvs : List Value
  rcap : Nat
  lvs : List Value
  lcap : Nat
  oS : Obj
  acc : List (Addr × Obj)
abbrev ledL {h₀ h : Heap} {L : Addr} {p0 p1 p2 p3 p4 : Addr × Obj} (_ : News h₀ L h [p0, p1, p2, p3, p4]) (d : LdS) : List (Addr × Obj) :=
  (p0.1, W.listOf d.lvs.toArray d.lcap) :: (d.R, W.listOf d.rvs.toArray d.rcap) :: (p3.1, d.oS) :: p4 :: d.acc
abbrev adr0 {h₀ h : Heap} {L : Addr} {p0 p1 p2 p3 p4 : Addr × Obj} (_ : News h₀ L h [p0, p1, p2, p3, p4]) : Addr := p0.1
abbrev adr3 {h₀ h : Heap} {L : Addr} {p0 p1 p2 p3 p4 : Addr × Obj} (_ : News h₀ L h [p0, p1, p2, p3, p4]) : Addr := p3.1
abbrev start5 {h₀ h : Heap} {L D R : Addr} {lvs rvs : List Value} {n m : Nat} {p2 p3 p4 : Addr × Obj} (_ : News h₀ L h [(D, W.listOf lvs.toArray n), (R, W.listOf rvs.toArray m), p2, p3, p4]) : LdS := ⟨R, rvs, m, lvs, n, p3.2, []⟩
abbrev pickS {h₀ h : Heap} {L : Addr} {p0 p1 p2 p3 p4 p5 : Addr × Obj} {l : List (Addr × Obj)} (_ : News h₀ L h (p0 :: p1 :: p2 :: p3 :: p4 :: p5 :: l)) : List (Addr × Obj) := p0 :: p2 :: p3 :: p5 :: l
abbrev adrB {h₀ h : Heap} {L : Addr} {p0 p1 : Addr × Obj} {l : List (Addr × Obj)} (_ : News h₀ L h (p0 :: p1 :: l)) : Addr := p1.1
abbrev pickC {h₀ h : Heap} {L : Addr} {p0 p1 p2 p3 p4 : Addr × Obj} {l : List (Addr × Obj)} (_ : News h₀ L h (p0 :: p1 :: p2 :: p3 :: p4 :: l)) : List (Addr × Obj) := [p0, p4]
abbrev pickD {h₀ h : Heap} {L : Addr} {p0 p1 p2 p3 p4 : Addr × Obj} {l : List (Addr × Obj)} (_ : News h₀ L h (p0 :: p1 :: p2 :: p3 :: p4 :: l)) : List (Addr × Obj) := p2 :: p0 :: p4 :: l
abbrev pickE {h₀ h : Heap} {L : Addr} {p0 p1 p2 p3 p4 p5 p6 p7 p8 : Addr × Obj} {l : List (Addr × Obj)} (_ : News h₀ L h (p0 :: p1 :: p2 :: p3 :: p4 :: p5 :: p6 :: p7 :: p8 :: l)) : List (Addr × Obj) := p5 :: p7 :: p8 :: p0 :: p1 :: p2 :: p3 :: l
def LeadsAt (P : Params) (c : Nat) (l : List Nat) (k : Nat) (lvs : List Value) (acc : List (Addr × Obj)) : Prop := lvs.length = k ∧ ∀ i, i < k → ∃ x dx tn tc vs key, lvs[i]? = some (.ref x) ∧
  (∀ p ∈ wsLed P 100 x dx tn tc vs (leadOf (rowsK c l (i + 1))) (wsAll (leadTxt (rowsK c l (i + 1)))) key, p ∈ acc) ∧ IntsAre vs (wsAll (leadTxt (rowsK c l (i + 1)))).cnt
theorem LeadsAt.more {P : Params} {c : Nat} {l : List Nat} {k : Nat} {lvs : List Value} {acc : List (Addr × Obj)} (H : LeadsAt P c l k lvs acc) {x dx tn tc : Addr} {vs : List Value} {key : WsKeys} (hi : IntsAre vs (wsAll (leadTxt (rowsK c l (k + 1)))).cnt) :
    LeadsAt P c l (k + 1) (lvs ++ [.ref x]) (wsLed P 100 x dx tn tc vs (leadOf (rowsK c l (k + 1))) (wsAll (leadTxt (rowsK c l (k + 1)))) key ++ acc) := by
  refine ⟨by rw [List.length_append, H.1]; rfl, fun i hi' => ?_⟩
  by_cases h : i < k
  · obtain ⟨x1, a1, a2, a3, a4, a5, e, hm, hv⟩ := H.2 i h
    exact ⟨x1, a1, a2, a3, a4, a5, by rw [List.getElem?_append_left (by rw [H.1]; exact h)]; exact e, fun p hp => List.mem_append_right _ (hm p hp), hv⟩
  · obtain rfl : i = k := by omega
    exact ⟨x, dx, tn, tc, vs, key, by rw [List.getElem?_append_right (by rw [H.1]; exact Nat.le_refl _), H.1]; simp, fun p hp => List.mem_append_left _ hp, hi⟩
abbrev endD {h₀ h : Heap} {L A0 D2 : Addr} {lvs rvs : List Value} {n m : Nat} {pS pL t1 t2 t3 t4 : Addr × Obj} {tl : List (Addr × Obj)} (_ : News h₀ L h ((A0, W.listOf lvs.toArray n) :: (D2, W.listOf rvs.toArray m) :: pS :: pL :: t1 :: t2 :: t3 :: t4 :: tl)) (acc : List (Addr × Obj)) : LdS := ⟨D2, rvs, m, lvs, n, pS.2, t1 :: t2 :: t3 :: t4 :: acc⟩
def LeadsRes (P : Params) (c : Nat) (l : List Nat) (h : Heap) (v : Value) (h' : Heap) : Prop := ∃ D lvs cap acc, v = .ref D ∧ MadeN h h' ((D, W.listOf lvs.toArray cap) :: acc) ∧ LeadsAt P c l 7 lvs acc
structure LInv (P : Params) (c : Nat) (l : List Nat) (D S : Addr) (i : Nat) (d : LdS) : Prop where
  sr : StrsAre d.rvs ((rowsK c l i).map rowS)
  ce : ∃ v, d.oS.data = .cell v
  ne : ∀ p ∈ d.acc, p.1 ≠ D ∧ p.1 ≠ S
  nR : @Ne Nat d.R D ∧ @Ne Nat d.R S
  ld : LeadsAt P c l i d.lvs d.acc
theorem start_rows {t : Tok} {c : Nat} {l : List Nat} : StrsAre [.str (Str.ofString ".") t, .str (Str.ofString ".") t, .str (Str.ofString ".") t, .str (Str.ofString ".") t, .str (Str.ofString ".") t, .str (Str.ofString ".") t, .str (Str.ofString ".") t] ((rowsK c l 0).map rowS) := by
  have e : Str.ofString "." = rowS 1 := by decide
  rw [e]
  exact .cons _ _ (.cons _ _ (.cons _ _ (.cons _ _ (.cons _ _ (.cons _ _ (.cons _ _ .nil))))))
local macro_rules | `(tactic| walk_at "call builtin:str.join") => `(tactic| (k_here; (rename News _ _ _ _ => N'); refine' join_list (News.isList N' (by k_mem)) (by with_reducible assumption) (by with_reducible assumption) ?_; intro t' k'; (with_reducible rename Txt.join _ _ = _ => ej9); rw [ej9]; clear ej9))
local macro_rules | `(tactic| walk_at "call ref cons nil") => `(tactic| ((with_reducible show wpAny _ _ (call (Value.ref 128) _) _ _ _); k_here; k_dflt (refine' pure_use (quo _ _ _ _ _ (by with_reducible assumption) (by with_reducible assumption) (by omega) (by omega) (by omega)) (by k_asm) (by k_asm) (by k_asm) (by k_asm) (by k_asm) (by rfl) (by rfl) (by rfl) (by rfl) (by exact Nat.le_of_ble_eq_true rfl) (by exact Nat.le_of_ble_eq_true rfl) ?_); intro v' h' tk' F' N' st' R'; obtain ⟨t', e9⟩ := R'; subst e9))
local macro_rules | `(tactic| walk_at "call builtin:str.split") => `(tactic| (k_here; (refine KSpl.split1 (by k_asm) (by k_asm) (by decide) ?_ (by (rw [sizeLine_eq]; omega))); intro D' l' h' k' e' a' F' N' l1; have lS9 := Above9.mk l1; (try k_lt l1); (with_reducible rename Txt.split _ _ = splitJ _ => hsp'); rw [e', hsp'] at a'; clear hsp' e'; generalize strValues l' = sv9 at N' a'))
local macro_rules | `(tactic| walk_at "storeName ref") => `(tactic| ((with_reducible show wpAny _ _ (storeName _ (Str.ofString "sent") _) _ _ _); k_here; refine Hold.stop ?_))
local macro_rules | `(tactic| walk_at "call builtin:list.pop") => `(tactic| (k_here; refine Hold.stop ?_))
local macro_rules | `(tactic| walk_at "call builtin:list.pop cons cons") => `(tactic| (k_here; refine Hold.stop ?_))
theorem splitJ_len {r : List Nat} (h : r.length ≤ 7) : (splitJ r).length ≤ 8 := by
  unfold splitJ; split
  · exact Nat.le_of_ble_eq_true rfl
  · rw [List.length_map, List.length_map]; omega
local macro_rules | `(tactic| walk_at "eval ListComp BinOp cons") => `(tactic| (k_here; refine Hold.stop ?_))
local macro_rules | `(tactic| walk_at "call builtin:str.replace") => `(tactic| (k_here; (refine' SC.replace (by ((show @Ne Nat _ _); omega)) (by ((show @Ne Nat _ _); omega)) (by ((show @Ne Nat _ _); omega)) (by decide +kernel) (by with_reducible assumption) ?_); intro t' k'; (with_reducible rename Txt.replace (rowS _) _ _ = _ => er9); rw [er9]))
local macro_rules | `(tactic| walk_at "binaryOp Add str str") => `(tactic| (k_here; (refine add_T (fun _ _ _ => ?_) (by with_reducible assumption)); (with_reducible rename spS _ ++ _ = _ => ea9); rw [ea9]))
theorem ncont {l : List Str} {z a : Str} (h : l.contains z = false) (ha : l.contains a = true) : z ≠ a := fun e => by rw [e, ha] at h; cases h
theorem made_lt {h₀ h h' : Heap} {L : Addr} {news l : List (Addr × Obj)} (N : News h₀ L h news) (M : Made h h' l) {a : Addr} {o : Obj} (hm : (a, o) ∈ l) : ∀ p ∈ news, p.1 < a := fun p hp => Nat.lt_of_lt_of_le (news_lt N p hp) (M _ hm).2
local macro_rules | `(tactic| walk_at "call ref cons nil") => `(tactic| ((with_reducible show wpAny _ _ (call (Value.ref 100) _) _ _ _); k_here; k_dflt (refine' pure_use (wsp _ _ _ (by exact leadOf_chars _) (by with_reducible assumption)) (by k_asm) (by k_asm) (by k_asm) (by k_asm) (by k_asm) (by rfl) (by rfl) (by rfl) (by rfl) (by exact Nat.le_of_ble_eq_true rfl) (by exact Nat.le_of_ble_eq_true rfl) ?_); (rename News _ _ _ _ => NO9); intro v' h' tk' F' N' st' R'; obtain ⟨x', dx', tn', tc', vs', k', e9, M9, i9, l9a, l9b, l9c⟩ := R'; subst e9; have l1 := made_lt NO9 M9 (.tail _ (.tail _ (.tail _ (.head _)))); have N9 := Made.onto M9 (by k_asm) NO9 st'; clear N' M9 NO9; dsimp only [wsLed, wsEs] at N9; simp only [List.cons_append, List.nil_append] at N9))
local macro_rules | `(tactic| walk_at "call builtin:list.append") => `(tactic| (k_here; refine Hold.stop ?_))
local macro_rules | `(tactic| walk_at "call builtin:list.append cons cons") => `(tactic| (k_here; refine Hold.stop ?_))
theorem leads (w : World) (l : List Nat) (c : Nat) (t1 t2 : Tok) (hl : l.length = 7) (hw : ∀ c ∈ l, c = 97 ∨ c = 98) (hc : c = 97 ∨ c = 98) (hq : ∀ k, k < 7 → QuoteJ (sentR c (rowsK c l k) (l.drop k))) :
    Pure1 w 550 5500 133 [.str (mkS l) t1, .str (mkS [c]) t2] (LeadsRes w.params c l) := by
  walk_at "p_enterC"
  (rename Obj => oL)
  (rename (Obj.data oL = _) => dL)
  (rename_i oS dS _)
  k_steps
  (rename News _ _ _ _ => N1)
  (rename Fr _ _ _ _ => F1)
  have dL' : oL.data = .cell (some (.str (mkS [c]) t2)) := dL
  have dS' : oS.data = .cell none := dS
  clear dL dS
  refine Hold.go ?_
  refine' iter_range (σ := LdS) (ledL N1) (fun d => [(Str.ofString "rows", .ref d.R)]) [Str.ofString "ends"] (fun i d => LInv w.params c l (adr0 N1) (adr3 N1) i d) (start5 N1) rfl (by assumption) (by decide) (n := 7) (by decide) F1 ?hN ?hk ?hi ?turn ?done
  case hN => exact news_sub N1 (.cons_cons _ (.cons_cons _ (.cons _ (.cons_cons _ (.cons_cons _ .slnil)))))
  case hk =>
    intro p hp
    simp only [List.mem_cons, List.mem_nil_iff, or_false] at hp
    rcases hp with rfl; rfl
  case hi => exact ⟨start_rows, ⟨_, dS'⟩, (fun _ hp => nomatch hp), by dsimp only [adr0, adr3, start5]; exact ⟨by omega, by omega⟩, ⟨rfl, fun _ hi => absurd hi (Nat.not_lt_zero _)⟩⟩
  case turn =>
    intro i t d u h tk own I oI hi hj ho hm hI F2 N2
    obtain ⟨j1, ⟨vS, j2⟩, j3, ⟨j4, j5⟩, j6⟩ := hj
    dsimp only [adr0, adr3] at j3 j4 j5
    have hq' := hq i hi
    have es := slice_drop (l := l) (i := i) (by omega)
    dsimp only [kstB, ledL] at F2 N2 ho
    simp only [List.cons_append, List.nil_append] at N2
    show wpAny _ _ _ _ _ _
    (try k_fold)
    k_steps
    (rename Fr _ _ _ _ => Fa)
    (rename News _ _ _ _ => Na)
    have he1 : ∀ c ∈ l.drop i, c < 128 := fun c h => by have := hw c (List.mem_of_mem_drop h); omega
    have hrl : d.rvs.length ≤ 7 := by rw [j1.length, List.length_map]; have := (rowsK_len c hl (i - 1) (by omega)); rcases Nat.eq_zero_or_pos i with h0 | h0; (· rw [h0, this.2]; exact Nat.le_refl _); (· rw [show i = (i - 1) + 1 by omega, this.1]; omega)
    refine Hold.go ?_
    refine' ListComp_Z ?hclos ?hcell ?hkind ?hnames ?hx ?hx2 ?hxx ?_ ?hs
    (case hclos => with_unfolding_all rfl)
    (case hcell => decide)
    (case hkind => with_unfolding_all rfl)
    (case hnames => decide)
    (case hx => with_unfolding_all rfl)
    (case hx2 => with_unfolding_all rfl)
    (case hxx => decide)
    (case hs => intro _; with_unfolding_all rfl)
    k_steps
    (rename Fr _ _ _ _ => Fb)
    (rename News _ _ _ _ => Nb)
    refine Hold.go ?_
    refine' zip_srcN (xs := (rowsK c l i).map rowS) (fun k ys _ => StrsAre ys ((sentK c (rowsK c l i) (l.drop i) k).map rowS)) rfl (News.isList Nb (by k_mem)) j1 he1 (by omega) (fun _ _ _ _ h => h) (by rw [zero_sent]; exact .nil) ?g1 Fb Nb ?g3
    case g1 =>
      intro k y ty e te ys C m₂ s₂ E' hy hee hyl hJ hC hns h1 h2 hs hk
      obtain ⟨n, rfl, hzz⟩ := zip_at hy hee
      obtain ⟨hp2, tk2, rfl⟩ := hs
      have Fc := keepsFr Fb hk
      have Nc := keepsNews Nb hk
      k_steps
      · exact ⟨_, _, rfl, fun _ _ e => e⟩
      · exact ⟨_, _, rfl, fun _ _ _ e => e⟩
      · (rename ((mkS _ == mkS _) = true) => h9)
        rw [sentK_yes hzz (one_eq h9)]; exact rows_snoc hJ _ _
      · (rename ((mkS _ == mkS _) = false) => h9)
        rw [sentK_no hzz (one_ne h9)]; exact hJ
    case g3 =>
      intro D ys h' tk hJ F' N' l1
      rw [sentK_end (by rw [List.length_map])] at hJ
      try k_lt l1
      have z0 := hq'.s0
      have z1 := hq'.s1
      have q2 := hq'.q2
      have q1 := hq'.q1
      have sp := hq'.sp
      have ej : Txt.join (Str.ofString "\x0d\n") ((sentR c (rowsK c l i) (l.drop i)).map rowS) = mailJ (sentR c (rowsK c l i) (l.drop i)) := rfl
      have wz : (((sentR c (rowsK c l i) (l.drop i)).map rowS).map (·.length)).sum + ((sentR c (rowsK c l i) (l.drop i)).map rowS).length * (Str.ofString "\x0d\n").length ≤ 16777216 := by
        have a1 := len_join_ge_sum (Str.ofString "\x0d\n") ((sentR c (rowsK c l i) (l.drop i)).map rowS)
        rw [ej] at a1
        have a2 := sentR_len c (rowsK c l i) (l.drop i)
        have a3 : (Str.ofString "\x0d\n").length = 2 := by decide
        have a4 := j1.length
        rw [List.length_map] at a4 ⊢
        rw [a3]; omega
      k_steps
      (rename Fr _ _ _ _ => Fd)
      (rename News _ _ _ _ => Nd)
      (rename StrsAre _ (splitJ _) => sS)
      (rename Above9 _ _ => lS)
      refine Hold.go ?_
      refine' store_C_L (pickS Nd) Fd Nd ?k1 ?k2 ?k3 ?k4 ?_ rfl rfl
      (case k1 => rfl)
      (case k2 => exact .tail _ (.tail _ (.tail _ (.tail _ (.head _)))))
      (case k3 => exact j2)
      case k4 =>
        intro p hp
        simp only [pickS, List.mem_cons, List.mem_append] at hp
        rcases hp with rfl | rfl | rfl | rfl | hp | hp
        · exact ⟨by simp, by show @Ne Nat _ _; omega⟩
        · exact ⟨by simp, by show @Ne Nat _ _; omega⟩
        · exact ⟨by simp, j5⟩
        · exact ⟨by simp, by show @Ne Nat _ _; omega⟩
        · exact ⟨by simp [hp], (j3 p hp).2⟩
        · exact ⟨by simp [hp], by rw [hI p hp]; exact Ne.symm (ho _ (.tail _ (.tail _ (.head _))))⟩
      intro h' o' F' N' d'
      dsimp only [pickS] at N'
      k_steps
      (rename Fr _ _ _ _ => Fe)
      (rename News _ _ _ _ => Ne)
      refine Hold.go ?_
      refine' Assign_ListComp_Z ?hsw ?hclos ?hcell ?hkind ?hnames ?hx ?hx2 ?hxx ?hy ?hp ?_ ?hs
      (case hsw => with_unfolding_all rfl)
      (case hclos => with_unfolding_all rfl)
      (case hcell => decide)
      (case hkind => with_unfolding_all rfl)
      (case hnames => decide)
      (case hx => with_unfolding_all rfl)
      (case hx2 => with_unfolding_all rfl)
      (case hxx => decide)
      (case hy => with_unfolding_all rfl)
      (case hp => with_unfolding_all rfl)
      (case hs => intro _; with_unfolding_all rfl)
      k_steps
      (rename Fr _ _ _ _ => Ff)
      (rename News _ _ _ _ => Nf)
      obtain ⟨Se, hSe⟩ : ∃ a, a = adrB Nf := ⟨_, rfl⟩
      dsimp only [adrB] at hSe
      subst hSe
      have sAcc : ∀ p ∈ d.acc ++ own, p.1 ≠ Se := fun p hp => Nat.ne_of_lt (lS.out p (by simp only [List.mem_cons]; exact .inr (.inr (.inr (.inr (.inr hp))))))
      refine Hold.go ?_
      refine' zip_srcA (xs := (rowsK c l i).map rowS) [Se] (fun k ys h => StrsAre ys ((stepK c (rowsK c l i) (l.drop i) k).map rowS) ∧ SentAt c (rowsK c l i) (l.drop i) Se k h) rfl (News.isList Nf (by k_mem)) j1 he1 (by omega) ?hch ?hJ ?hJ0 ?g1 Ff Nf ?hcL ?hc0 ?g3
      case hch =>
        intro b hb
        rw [List.mem_singleton.mp hb]
        exact ⟨Heap.lt_size (Nf _ (.tail _ (.head _))).1, by show @Ne Nat _ _; omega⟩
      case hJ => exact fun k ys h h' q hk => ⟨q.1, q.2.frame hk⟩
      case hJ0 =>
        refine ⟨by rw [zero_step]; exact .nil, _, _, _, (Nf _ (.tail _ (.head _))).1, sS, splitJ_len ?_, ?_⟩
        · have a2 := sentR_len c (rowsK c l i) (l.drop i)
          have a4 := j1.length
          rw [List.length_map] at a4; omega
        · intro hr
          rw [restK_zero] at hr ⊢
          unfold splitJ
          rw [if_neg hr]
      case hcL => intro hm; exact (Nf _ (.tail _ (.head _))).2.1 (List.mem_singleton.mp hm).symm
      case hc0 => intro b hb; rw [List.mem_singleton.mp hb]; exact (Nf _ (.tail _ (.head _))).2.2
      case g1 =>
        intro k y ty e te ys C m₂ s₂ E' hy hee hyl hJ hC hns h1 h2 hs hk
        obtain ⟨n, rfl, hzz⟩ := zip_at hy hee
        obtain ⟨hp2, tk2, rfl⟩ := hs
        have Fc := keepsFrBut Ff Nf (.tail _ (.head _)) hk
        have Nc := keepsNewsBut (l := pickC Nf) Nf (by intro p hp; simp only [pickC, List.mem_cons, List.mem_nil_iff, or_false] at hp; rcases hp with rfl | rfl; (· exact ⟨.head _, by show @Ne Nat _ _; omega⟩); (· exact ⟨.tail _ (.tail _ (.tail _ (.tail _ (.head _)))), by show @Ne Nat _ _; omega⟩)) hk
        dsimp only [pickC] at Nc
        obtain ⟨hJ1, vs, cap, X, q1, q2, q3, q4⟩ := hJ
        have Nd := news_cons q1 (Nf _ (.tail _ (.head _))).2 Nc
        have hJ2 : SentAt c (rowsK c l i) (l.drop i) Se k hp2 := ⟨vs, cap, X, q1, q2, q3, q4⟩
        clear Nc q2 q3 q4
        k_steps
        · exact ⟨_, _, rfl, fun _ _ e => e⟩
        · (rename ((mkS _ == mkS _) = true) => h9)
          obtain ⟨tt, q, cap2, e1, e2, e3⟩ := hJ2.yes hzz (one_eq h9)
          refine Hold.go ?_
          refine' pop_first e1 (by omega) ?_
          intro h5 k1 k2
          k_steps
          · exact ⟨_, _, rfl, fun b o hb q => k1 b o (fun e => hb (e ▸ List.mem_singleton.mpr rfl)) q⟩
          · rw [stepK_yes hzz (one_eq h9)]; exact rows_snoc hJ1 _ _
          · exact e3 _ k2
        · exact ⟨_, _, rfl, fun _ _ _ e => e⟩
        · (rename ((mkS _ == mkS _) = false) => h9)
          rw [stepK_no hzz (one_ne h9)]; exact rows_snoc hJ1 _ _
        · (rename ((mkS _ == mkS _) = false) => h9)
          exact hJ2.no hzz (one_ne h9)
      case g3 =>
        intro D2 ys2 h' tk hJ F' N' l1
        have hJ1 := hJ.1
        rw [stepK_end (by rw [List.length_map])] at hJ1
        have hJ1 : StrsAre ys2 ((rowsK c l (i + 1)).map rowS) := hJ1
        have N2 := N' (pickD Nf) (by
          intro p hp
          simp only [pickD, List.mem_cons, List.mem_append] at hp
          rcases hp with rfl | rfl | rfl | hp | hp
          · exact ⟨.tail _ (.tail _ (.head _)), fun e => by have e : @Eq Nat _ _ := List.mem_singleton.mp e; omega⟩
          · exact ⟨.head _, fun e => by have e : @Eq Nat _ _ := List.mem_singleton.mp e; omega⟩
          · exact ⟨.tail _ (.tail _ (.tail _ (.tail _ (.head _)))), fun e => by have e : @Eq Nat _ _ := List.mem_singleton.mp e; omega⟩
          · exact ⟨.tail _ (.tail _ (.tail _ (.tail _ (.tail _ (List.mem_append_left _ hp))))), fun e => sAcc p (List.mem_append_left _ hp) (List.mem_singleton.mp e)⟩
          · exact ⟨.tail _ (.tail _ (.tail _ (.tail _ (.tail _ (List.mem_append_right _ hp))))), fun e => sAcc p (List.mem_append_right _ hp) (List.mem_singleton.mp e)⟩)
        clear N'
        dsimp only [pickD] at N2
        k_steps
        have hR7 : ((rowsK c l (i + 1)).map rowS).length ≤ 7 := by rw [List.length_map, (rowsK_len c hl i (by omega)).1]; omega
        have hy7 : ys2.length ≤ 7 := by rw [hJ1.length]; exact hR7
        (rename Fr _ _ _ _ => Fg)
        (rename News _ _ _ _ => Ng)
        have l1d := Above9.mk l1
        have l1c := l1
        try k_lt l1c
        refine Hold.go ?_
        refine' ListComp_N ?hclos ?hcell ?hkind ?hnames ?hx ?_ ?hs
        (case hclos => with_unfolding_all rfl)
        (case hcell => decide)
        (case hkind => with_unfolding_all rfl)
        (case hnames => decide)
        (case hx => with_unfolding_all rfl)
        (case hs => intro _; with_unfolding_all rfl)
        k_steps
        (rename Fr _ _ _ _ => Fh)
        (rename News _ _ _ _ => Nh)
        refine list_src (xs := (rowsK c l (i + 1)).map rowS) (fun k ys => StrsAre ys (((rowsK c l (i + 1)).take k).map leadS)) rfl (by dsimp only; omega) Fh Nh (.head _) hJ1 (by omega) .nil ?g1 ?g3
        case g1 =>
          intro k y ty ys C m₂ s₂ E' hy hJ hC hns hm2 Fc Nc htk2 hs hk
          obtain ⟨hp2, tk2, rfl⟩ := hs
          rw [List.getElem?_map] at hy
          obtain ⟨n, hn, rfl⟩ := Option.map_eq_some_iff.mp hy
          have hn8 : n ≤ 8 := by have := rowsK_le c l (i + 1) n (List.mem_of_getElem? hn); omega
          have er := rep_row hn8
          have ea := sp_tab n
          have eb : (rowS n).length + ((rowS n).length + 1) * (Str.ofString " ").length ≤ 16777216 := by
            have a1 : (rowS n).length = n := by unfold rowS; rw [len_mkS]; simp
            have a2 : (Str.ofString " ").length = 1 := by decide
            rw [a1, a2]; omega
          have ec : (spS n).length + (Str.ofString "\t").length ≤ 1000 := by
            have a1 : (spS n).length = n := by unfold spS; rw [len_mkS]; simp
            have a2 : (Str.ofString "\t").length = 1 := by decide
            rw [a1, a2]; omega
          have htk3 : 1 ≤ tk2 := htk2
          k_steps
          · exact ⟨_, _, rfl, fun _ _ e => e⟩
          · exact ⟨_, _, rfl, fun _ _ e => e⟩
          · exact leads_snoc hJ hn _
        case g3 =>
          intro D3 ys3 h' tk hJ F' N' l1 htk3
          have eT : (rowsK c l (i + 1)).take ys2.length = rowsK c l (i + 1) := List.take_of_length_le (by rw [hJ1.length, List.length_map]; exact Nat.le_refl _)
          rw [eT] at hJ
          try k_lt l1
          have ej := lead_join (rowsK c l (i + 1))
          have hle := lead_sum (r := rowsK c l (i + 1)) (N := 8) (fun n hn => by have := rowsK_le c l (i + 1) n hn; omega)
          have wz : (((rowsK c l (i + 1)).map leadS).map (·.length)).sum + ((rowsK c l (i + 1)).map leadS).length * (Str.ofString "").length ≤ 16777216 := by
            have a3 : (Str.ofString "").length = 0 := by decide
            rw [List.length_map] at hR7
            rw [a3]; omega
          have z200 : (leadOf (rowsK c l (i + 1))).length ≤ 200 := by
            have a1 : (leadTxt (rowsK c l (i + 1))).length ≤ (rowsK c l (i + 1)).length * 9 := leadTxt_len (fun n hn => by have := rowsK_le c l (i + 1) n hn; omega)
            show (leadTxt (rowsK c l (i + 1))).toArray.size ≤ 200
            rw [List.size_toArray]
            rw [List.length_map] at hR7
            omega
          k_steps
          (rename Fr _ _ _ _ => Fk)
          (rename News _ _ _ _ => Nk)
          (rename ∀ p ∈ (_, W.listOf ys3.toArray _) :: _, p.1 < _ => lk)
          (rename _ < _ => l9c)
          have lA : @LT.lt Nat _ _ _ := lk _ (.tail _ (.tail _ (.head _)))
          have lS2 : @LT.lt Nat _ _ _ := lk _ (.tail _ (.tail _ (.tail _ (.head _))))
          have lI : @LT.lt Nat _ _ _ := lk (I, oI) (.tail _ (.tail _ (.tail _ (.tail _ (.tail _ (List.mem_append_right _ hm))))))
          have lD := l1c.1
          have lI2 : @LT.lt Nat _ _ _ := l1d.out (I, oI) (.tail _ (.tail _ (.tail _ (.tail _ (.tail _ (List.mem_append_right _ hm))))))
          dsimp only at lA lS2 lI lI2
          refine Hold.go ?_
          refine' append_L Fk Nk (.tail _ (.tail _ (.tail _ (.tail _ (.tail _ (.tail _ (.head _))))))) (pickE Nk) ?hl (by have := j6.1; omega) ?_
          case hl =>
            intro p hp
            simp only [pickE, List.mem_cons, List.mem_append] at hp
            rcases hp with rfl | rfl | rfl | rfl | rfl | rfl | rfl | hp | hp
            · exact ⟨by simp, by show @Ne Nat _ _; omega⟩
            · exact ⟨by simp, by show @Ne Nat _ _; omega⟩
            · exact ⟨by simp, by show @Ne Nat _ _; omega⟩
            · exact ⟨by simp, by show @Ne Nat _ _; omega⟩
            · exact ⟨by simp, by show @Ne Nat _ _; omega⟩
            · exact ⟨by simp, by show @Ne Nat _ _; omega⟩
            · exact ⟨by simp, by show @Ne Nat _ _; omega⟩
            · exact ⟨by simp [hp], (j3 p hp).1⟩
            · exact ⟨by simp [hp], by rw [hI p hp]; exact Ne.symm (ho _ (.head _))⟩
          intro h' F' N'
          dsimp only [pickE] at N'
          k_steps
          (rename Fr _ _ _ _ => Fm)
          (rename News _ _ _ _ => Nm)
          (rename IntsAre _ _ => i9)
          refine' TurnEnd.go (endD Nm d.acc) ?F ?N ?ho ?hk ?hr ?hi
          case F => exact Fm
          case N => exact Nm
          case ho =>
            intro p hp
            dsimp only [ledL, endD] at hp
            simp only [List.mem_cons] at hp
            rcases hp with rfl | rfl | rfl | rfl | rfl | rfl | rfl | rfl | hp
            · have h1 := ho _ (.head _); exact h1
            · show @Ne Nat _ _; omega
            · have h1 := ho _ (.tail _ (.tail _ (.head _))); exact h1
            · have h1 := ho _ (.tail _ (.tail _ (.tail _ (.head _)))); exact h1
            · show @Ne Nat _ _; omega
            · show @Ne Nat _ _; omega
            · show @Ne Nat _ _; omega
            · show @Ne Nat _ _; omega
            · exact ho _ (.tail _ (.tail _ (.tail _ (.tail _ hp))))
          case hk =>
            intro p hp
            simp only [List.mem_cons, List.mem_nil_iff, or_false] at hp
            rcases hp with rfl; rfl
          case hr =>
            intro z hz1 hz2 hz3
            simp only [List.mem_cons, List.mem_nil_iff, or_false, forall_eq] at hz2
            have hz4 : z ≠ Str.ofString "ends" := ncont hz3 (by decide)
            simp only [if_neg hz1, if_neg hz2, if_neg hz4, hz3, Bool.false_eq_true, if_false]
          case hi =>
            refine ⟨hJ1, ⟨_, by assumption⟩, ?_, ⟨by show @Ne Nat _ _; dsimp only [endD, adr0]; omega, by show @Ne Nat _ _; dsimp only [endD, adr3]; omega⟩, LeadsAt.more j6 i9⟩
            intro p hp
            dsimp only [endD] at hp
            simp only [List.mem_cons] at hp
            dsimp only [adr0, adr3]
            rcases hp with rfl | rfl | rfl | rfl | hp
            · exact ⟨by show @Ne Nat _ _; omega, by show @Ne Nat _ _; omega⟩
            · exact ⟨by show @Ne Nat _ _; omega, by show @Ne Nat _ _; omega⟩
            · exact ⟨by show @Ne Nat _ _; omega, by show @Ne Nat _ _; omega⟩
            · exact ⟨by show @Ne Nat _ _; omega, by show @Ne Nat _ _; omega⟩
            · exact j3 p hp
  case done =>
    intro d u h tk hj F2 N2
    dsimp only [kstB, ledL] at F2 N2
    show wpAny _ _ _ _ _ _
    (try k_fold)
    k_steps
    (rename News _ _ _ _ => Nz)
    exact ⟨_, _, _, _, rfl, MadeN.of Nz (.cons_cons _ (.cons _ (.cons _ (.cons _ (List.Sublist.refl _))))), hj.ld⟩
end
end Mine
-- part Fd2
namespace Mine
open PySem.Builtin PySem.Builtin.Str in
theorem gives_find4 (x y : Str) (i j : Int) (t u v w : Tok) (hj : (max 0 (if j < 0 then j + x.length else j)).toNat = x.length) : Gives («str.find» ⟨[.str x t, .str y u, .int i v, .int j w], []⟩) (.int (Txt.find3 x y i)) := by
  show Gives (match occurrences x y (fromIndex x.length i) (min (max 0 (if j < 0 then j + x.length else j)).toNat x.length) 1 with | k :: _ => retInt k | [] => (do rule "str.find.not-found"; retInt (-1))) _
  rw [hj, Nat.min_self]
  unfold Txt.find3
  cases occurrences x y (fromIndex x.length i) x.length 1 with
  | nil => exact .rule (.of_eq rfl)
  | cons k _ => exact .of_eq rfl
section
variable {prog : Program} {w : World} {A : Around} {E : Value → Shared → Prop} {s : Shared} {x y : Str} {t u v v2 : Tok} {i : Int} {Q : Value → Shared → Prop}
theorem find4 (hq : ∀ t' k, Q (.int (Txt.find3 x y i) t') { s with toks := k }) : wpAny (model prog w) A (call (.builtin "str.find") [.str x t, .str y u, .int i v, .int (x.length : Int) v2]) Q E s :=
  call_gives F.slot_str_find (typeIs_str _ _ _) F.entry_str_find (F.args_str_find_4 _ _ _ _) (gives_find4 x y i _ t u v v2 (by
    have : ¬ ((x.length : Int) < 0) := by omega
    rw [if_neg this]; omega)) (hq _ _)
end
theorem fromI {n : Nat} {p : Nat} : fromIndex n (p : Int) = p := by
  unfold fromIndex
  have : ¬ ((p : Int) < 0) := by omega
  rw [if_neg this]; omega
/-- where the b's are looked for -/
theorem find_b (g : List Nat) (p : Nat) : (Txt.find3 (mkS g) (mkS [98]) (p : Int) = -1 ∧ ∀ k, p ≤ k → g[k]? ≠ some 98) ∨
    ∃ q : Nat, Txt.find3 (mkS g) (mkS [98]) (p : Int) = (q : Int) ∧ p ≤ q ∧ g[q]? = some 98 ∧ ∀ k, p ≤ k → k < q → g[k]? ≠ some 98 := by
  have at_iff : ∀ k, StrLaws.At (mkS g) (mkS [98]) (mkS g).length k ↔ g[k]? = some 98 := by
    intro k
    unfold StrLaws.At
    rw [StrLaws.subAt_eq, len_mkS, len_mkS]
    constructor
    · rintro ⟨h1, h2⟩
      have h1 : k + 1 ≤ g.length := by simpa using h1
      have h2 : (g.drop k).take 1 = [98] := by simpa [mkS] using h2
      have h3 : ((g.drop k).take 1)[0]? = some 98 := by rw [h2]; rfl
      rw [List.getElem?_take_of_lt (by omega), List.getElem?_drop] at h3
      exact h3
    · intro h
      obtain ⟨h1, h2⟩ := List.getElem?_eq_some_iff.mp h
      refine ⟨(by show k + 1 ≤ g.length; exact h1), ?_⟩
      have : (g.drop k).take 1 = [98] := by rw [List.drop_eq_getElem_cons h1, h2]; rfl
      simpa [mkS] using this
  unfold Txt.find3
  rw [fromI]
  rcases StrLaws.occ_head_from (mkS g) (mkS [98]) p 1 (Nat.le_refl 1) with ⟨h0, hn⟩ | ⟨q, r, h0, hpq, ha, hn⟩
  · rw [h0]
    exact .inl ⟨rfl, fun k hk e => hn k hk ((at_iff k).mpr e)⟩
  · rw [h0]
    exact .inr ⟨q, rfl, hpq, (at_iff q).mp ha, fun k h1 h2 e => hn k h1 h2 ((at_iff k).mpr e)⟩
theorem find_e (g : List Nat) (p : Nat) (hp : p ≤ g.length) : Txt.find3 (mkS g) (mkS []) (p : Int) = (p : Int) := by
  have at_all : ∀ k, k ≤ g.length → StrLaws.At (mkS g) (mkS []) (mkS g).length k := by
    intro k hk
    unfold StrLaws.At
    rw [StrLaws.subAt_eq, len_mkS, len_mkS]
    exact ⟨by simpa using hk, by simp [mkS]⟩
  unfold Txt.find3
  rw [fromI]
  rcases StrLaws.occ_head_from (mkS g) (mkS []) p 1 (Nat.le_refl 1) with ⟨_, hn⟩ | ⟨q, r, h0, hpq, ha, hn⟩
  · exact absurd (at_all p hp) (hn p (Nat.le_refl _))
  · rw [h0]
    by_cases h : p < q
    · exact absurd (at_all p hp) (hn p (Nat.le_refl _) h)
    · have : q = p := by omega
      rw [this]
theorem count_no {g : List Nat} {p q : Nat} (hpq : p ≤ q) (h : ∀ k, p ≤ k → k < q → g[k]? ≠ some 98) : (g.take q).count 98 = (g.take p).count 98 := by
  induction q with
  | zero => have : p = 0 := by omega
            rw [this]
  | succ q ih =>
    by_cases e : p = q + 1
    · rw [e]
    · have ih := ih (by omega) fun k h1 h2 => h k h1 (by omega)
      rw [List.take_add_one, List.count_append, ih]
      have hq := h q (by omega) (by omega)
      cases hg : g[q]? with
      | none => simp
      | some c =>
        have : c ≠ 98 := fun e => hq (by rw [hg, e])
        simp [this]
theorem count_yes {g : List Nat} {p q : Nat} (hpq : p ≤ q) (hq : g[q]? = some 98) (h : ∀ k, p ≤ k → k < q → g[k]? ≠ some 98) : (g.take (q + 1)).count 98 = (g.take p).count 98 + 1 := by
  rw [List.take_add_one, List.count_append, count_no hpq h, hq]; rfl
theorem count_end {g : List Nat} {p : Nat} (h : ∀ k, p ≤ k → g[k]? ≠ some 98) : g.count 98 = (g.take p).count 98 := by
  by_cases hp : p ≤ g.length
  · have := count_no (g := g) (q := g.length) hp fun k h1 _ => h k h1
    rw [List.take_length] at this; exact this
  · rw [List.take_of_length_le (by omega)]
/-- the pattern of t b's -/
def dotB (t : Nat) : Str := mkS ([46, 46, 46] ++ (List.replicate t [98, 46, 46, 46]).flatten)
def pieceB (t : Nat) : List Str := [mkS []] ++ List.replicate t (mkS [98]) ++ [mkS []]
theorem pieces_all : (List.range 9).all (fun t => decide (Txt.split (dotB t) (Str.ofString "...") = pieceB t) && !(Builtin.Str.occurrences (dotB t) (Str.ofString "...") 0 (dotB t).length 1).isEmpty) = true := by decide +kernel
theorem pieces {t : Nat} (h : t ≤ 8) : Txt.split (dotB t) (Str.ofString "...") = pieceB t ∧ (Builtin.Str.occurrences (dotB t) (Str.ofString "...") 0 (dotB t).length 1).isEmpty = false := by
  have := List.all_eq_true.mp pieces_all t (List.mem_range.mpr (by omega))
  simpa using this
end Mine
-- part Ix2
namespace Mine
section
variable {prog : Program} {w : World} {A : Around} {E : Value → Shared → Prop} {s : Shared} {h₀ : Heap} {L D : Addr} {m : Str → Option Value} {news : List (Addr × Obj)} {vs : List Value} {n : Nat} {value slice : Expr} {x : Value} {k : Int} {t : Tok} {Q : Value → Shared → Prop}
theorem len_V (N : News h₀ L s.heap news) (hm : (D, W.listOf vs.toArray n) ∈ news) (hz : vs.length ≤ 100000) (h : ∀ t tk, Q (.int (vs.length : Int) t) { s with toks := tk }) : wpAny (model prog w) A (call (.builtin "len") [.ref D]) Q E s := by
  refine len_list (News.isList N hm) (by rw [List.size_toArray]; omega) ?_
  rw [List.size_toArray]; exact h _ _
theorem item_L (N : News h₀ L s.heap news) (hm : (D, W.listOf vs.toArray n) ∈ news) (h0 : 0 ≤ k) (hfit : k < 100000) (hx : vs[k.toNat]? = some x) (h : Q x s)
    (hs : subscripted slice false (.ref D) (.int k t) = operate [.ref D, .int k t] (getItem (.ref D) (.int k t)) := by with_unfolding_all rfl) : wpAny (model prog w) A (subscriptTail value slice (.ref D) (.int k t)) Q E s :=
  tail_any (Heap.IsList.typeIs (News.isList N hm)) list_getitem_lookup (wpAny_getItem_list (News.isList N hm) h0 (by omega) (by rw [List.getElem?_toArray]; exact hx) h) hs
theorem item_neg (N : News h₀ L s.heap news) (hm : (D, W.listOf vs.toArray n) ∈ news) (hz : 1 ≤ vs.length) (hx : vs[vs.length - 1]? = some x) (h : Q x s)
    (hs : subscripted slice false (.ref D) (.int (-1) t) = operate [.ref D, .int (-1) t] (getItem (.ref D) (.int (-1) t)) := by with_unfolding_all rfl) : wpAny (model prog w) A (subscriptTail value slice (.ref D) (.int (-1) t)) Q E s :=
  tail_any (Heap.IsList.typeIs (News.isList N hm)) list_getitem_lookup (wpAny_getItem_list_neg (News.isList N hm) (by decide) (by rw [List.size_toArray]; omega) (by decide) (by
    rw [List.getElem?_toArray, List.size_toArray]
    have e : (-1 + (vs.length : Int)).toNat = vs.length - 1 := by omega
    rw [e]; exact hx) h) hs
end
theorem last_is {v0 v1 : Value} {mid : List Value} : (v0 :: (mid ++ [v1]))[(v0 :: (mid ++ [v1])).length - 1]? = some v1 := by
  rw [List.length_cons, List.length_append]
  show (v0 :: (mid ++ [v1]))[mid.length + 1]? = _
  rw [List.getElem?_cons_succ, List.getElem?_append_right (Nat.le_refl _), Nat.sub_self]; rfl
/-- the pieces of the pattern, as values -/
theorem piece_shape {sv : List Value} {t : Nat} (h : StrsAre sv (pieceB t)) : ∃ u0 mid u1, sv = .str (mkS []) u0 :: (mid ++ [.str (mkS []) u1]) ∧ StrsAre mid (List.replicate t (mkS [98])) ∧ mid.length = t := by
  have key : ∀ (xs : List Str) (sv : List Value), StrsAre sv (xs ++ [mkS []]) → ∃ mid u1, sv = mid ++ [.str (mkS []) u1] ∧ StrsAre mid xs := by
    intro xs
    induction xs with
    | nil =>
      intro sv h
      cases h with
      | cons x t r => cases r; exact ⟨[], _, rfl, .nil⟩
    | cons y ys ih =>
      intro sv h
      cases h with
      | cons x t r =>
        obtain ⟨mid, u1, rfl, hm⟩ := ih _ r
        exact ⟨_ :: mid, u1, rfl, .cons _ _ hm⟩
  unfold pieceB at h
  rw [List.append_assoc] at h
  cases h with
  | cons x t r =>
    obtain ⟨mid, u1, rfl, hm⟩ := key _ _ r
    exact ⟨_, mid, u1, rfl, hm, by rw [hm.length, List.length_replicate]⟩
theorem rep_at {mid : List Value} {t : Nat} {x : Str} (h : StrsAre mid (List.replicate t x)) : ∀ (i : Nat) v, mid[i]? = some v → ∃ u, v = .str x u := by
  intro i v e
  have key : ∀ (xs : List Str) (vs : List Value), StrsAre vs xs → (∀ y ∈ xs, y = x) → ∀ (i : Nat) v, vs[i]? = some v → ∃ u, v = .str x u := by
    intro xs vs h
    induction h with
    | nil => intro _ i v e; cases e
    | cons y t r ih =>
      intro hx i v e
      cases i with
      | zero => cases e; exact ⟨t, by rw [hx y (List.mem_cons_self ..)]⟩
      | succ i => exact ih (fun z hz => hx z (List.mem_cons_of_mem _ hz)) i v e
  exact key _ _ h (fun y hy => (List.mem_replicate.mp hy).2) i v e
theorem piece_at {mid : List Value} {t u0 u1 : Nat} (h : StrsAre mid (List.replicate t (mkS [98]))) (hl : mid.length = t) {i : Nat} {v : Value} (e : (Value.str (mkS []) u0 :: (mid ++ [Value.str (mkS []) u1]))[i]? = some v) :
    (∃ u, v = .str (mkS []) u ∧ (i = 0 ∨ i = t + 1)) ∨ ∃ u, v = .str (mkS [98]) u ∧ 1 ≤ i ∧ i ≤ t := by
  cases i with
  | zero => cases e; exact .inl ⟨_, rfl, .inl rfl⟩
  | succ i =>
    rw [List.getElem?_cons_succ] at e
    by_cases hi : i < t
    · rw [List.getElem?_append_left (by omega)] at e
      obtain ⟨u, hu⟩ := rep_at h i v e
      exact .inr ⟨u, hu, by omega, by omega⟩
    · rw [List.getElem?_append_right (by omega)] at e
      by_cases h0 : i - mid.length = 0
      · rw [h0] at e; cases e; exact .inl ⟨_, rfl, .inr (by omega)⟩
      · rw [List.getElem?_eq_none (by simp only [List.length_cons, List.length_nil]; omega)] at e; cases e
/-- how far the pattern has come -/
def PosAt (g : List Nat) (t i : Nat) (st : Int) : Prop := ∃ p : Nat, st = (p : Int) ∧ p ≤ g.length ∧ (g.take p).count 98 = min (i - 1) t
theorem PosAt.start {g : List Nat} {t : Nat} : PosAt g t 0 0 := ⟨0, rfl, Nat.zero_le _, by simp⟩
theorem PosAt.done {g : List Nat} {t n : Nat} {st : Int} (h : PosAt g t n st) (hn : n = t + 2) : decide (t ≤ g.count 98) = true := by
  obtain ⟨p, _, _, hc⟩ := h
  have : (g.take p).count 98 ≤ g.count 98 := (List.take_sublist p g).count_le 98
  rw [decide_eq_true_iff]; omega
end Mine
-- part Ke3
namespace Mine
section
theorem off_Ke3 : True := by w_top off; trivial
local macro_rules | `(tactic| walk_at "call builtin:str.split") => `(tactic| (k_here; (refine KSpl.split1 (by k_asm) (by k_asm) (by decide) ?_ (by (rw [sizeLine_eq]; omega))); intro D' l' h' k' e' a' F' N' l1; (try k_lt l1); (with_reducible rename Txt.split _ _ = pieceB _ => hsp'); rw [e', hsp'] at a'; clear hsp' e'; generalize strValues l' = sv9 at N' a'; obtain ⟨u0', mid', u1', es9, hm9, hl9⟩ := piece_shape a'; subst es9))
local macro_rules | `(tactic| walk_at "call builtin:len") => `(tactic| (k_here; (with_reducible show wpAny _ _ (call (Value.builtin "len") [Value.ref _]) _ _ _); k_dflt (refine' len_V (by k_asm) (by k_mem) (by (simp only [List.length_cons, List.length_append, List.length_nil]; omega)) ?_); intro t' tk'; (simp only [List.length_cons, List.length_append, List.length_nil])))
local macro_rules | `(tactic| walk_at "subscriptTail Name Constant ref int") => `(tactic| (k_here; k_dflt (refine' item_L (by k_asm) (by k_mem) (by decide) (by decide) (by rfl) ?_ (by with_unfolding_all rfl); k_whole)))
local macro_rules | `(tactic| walk_at "subscriptTail Name UnaryOp ref int") => `(tactic| (k_here; k_dflt (refine' item_neg (by k_asm) (by k_mem) (by (simp only [List.length_cons]; omega)) (by exact last_is) ?_ (by with_unfolding_all rfl); k_whole)))
local macro_rules | `(tactic| walk_at "exec For Name Name cons nil") => `(tactic| (k_here; (rename Fr _ _ _ _ => lF'); (with_unfolding_all refine' For_invVF lF' (by exact rfl) (by exact rfl) ?_; k_whole)))
local macro_rules | `(tactic| walk_at "pyIter ref") => `(tactic| ((with_reducible show wpAny _ _ (pyIter (Value.ref _)) (fun it s₂ => LoopAtV _ _ _ _ _ _ _ _ _ it s₂) _ _); k_here; refine Hold.stop ?_))
local macro_rules | `(tactic| walk_at "call builtin:str.find") => `(tactic| (k_here; refine find4 (fun t' k' => ?_); (with_reducible rename Txt.find3 _ _ _ = _ => ef9); rw [ef9]; clear ef9))
structure FdS where
  st : Int
  ts : Tok
theorem ellB (w : World) (g : List Nat) (t : Nat) (t1 t2 : Tok) (ht : t ≤ 8) (hg : g.length ≤ 1000) : Pure1 w 600 6000 111 [.str (dotB t) t1, .str (mkS g) t2] (fun _ v _ => v = .bool (decide (t ≤ g.count 98))) := by
  obtain ⟨hsp, hocc⟩ := pieces ht
  have z1 : (dotB t).length ≤ 1000 := by
    unfold dotB
    rw [len_mkS]
    have : ∀ t : Nat, (List.replicate t [98, 46, 46, 46]).flatten.length = t * 4 := by
      intro t
      induction t with
      | zero => rfl
      | succ t ih => rw [List.replicate_succ, List.flatten_cons, List.length_append, ih]; simp; omega
    rw [List.length_append, this]; simp; omega
  have z2 : (mkS g).length ≤ 1000 := by rw [len_mkS]; exact hg
  walk_at "p_enter"
  k_steps
  (rename Fr _ _ _ _ => F1)
  (rename News _ _ _ _ => N1)
  (rename StrsAre _ (List.replicate t (mkS [98])) => hm9)
  (rename List.length _ = t => hl9)
  have N2 := news_sub N1 (.cons _ (List.Sublist.refl _))
  refine Hold.go ?_
  refine' iter_list (σ := FdS) (fun _ => restOf N1) (fun c => [(Str.ofString "startpos", .int c.st c.ts)]) [] (fun i c => PosAt g t i c.st) ⟨0, _⟩ rfl (News.isList N2 (.head _)) (news_ne N2 (.head _)) F1 N2 ?hk ?hi ?turn ?done
  case hk =>
    intro p hp
    simp only [List.mem_cons, List.mem_nil_iff, or_false] at hp
    rcases hp with rfl; rfl
  case hi => exact PosAt.start
  case turn =>
    intro i v c u h tk own I oI hv hj ho hm hI F2 N2
    obtain ⟨st, ts⟩ := c
    obtain ⟨p, hp, hpl, hpc⟩ := hj
    dsimp only at hp
    subst hp
    dsimp only [kstB, restOf] at F2 N2
    simp only [List.cons_append, List.nil_append] at N2
    have z3 : (mkS []).length = 0 := rfl
    have z4 : (mkS [98]).length = 1 := rfl
    have hpos : i < t + 2 := by
      have := (List.getElem?_eq_some_iff.mp hv).1
      simp only [List.length_cons, List.length_append, List.length_nil] at this; omega
    rcases piece_at hm9 hl9 hv with ⟨uv, rfl, hi0⟩ | ⟨uv, rfl, hi1, hi2⟩
    · have ef := find_e g p hpl
      show wpAny _ _ _ _ _ _
      k_fold
      k_steps
      refine' TurnEnd.go ⟨_, _⟩ ?F ?N ?ho ?hk ?hr ?hi
      case F => assumption
      case N => assumption
      case ho => exact ho
      case hk =>
        intro p hp
        simp only [List.mem_cons, List.mem_nil_iff, or_false] at hp
        rcases hp with rfl; rfl
      case hr =>
        intro z hz1 hz2 hz3
        simp only [List.mem_cons, List.mem_nil_iff, or_false, forall_eq] at hz2
        simp only [if_neg hz1, if_neg hz2, List.contains_nil, Bool.false_eq_true, if_false]
      case hi => exact ⟨p, by dsimp only; omega, hpl, by rw [hpc]; omega⟩
    · rcases find_b g p with ⟨ef, hno⟩ | ⟨q, ef, hpq, hq, hno⟩
      · show wpAny _ _ _ _ _ _
        k_fold
        k_steps
        refine TurnEnd.mk ?_
        unfold TurnEnd0
        dsimp only
        k_steps
        have hc := count_end hno
        rw [decide_eq_false (by omega)]
      · show wpAny _ _ _ _ _ _
        k_fold
        k_steps
        refine' TurnEnd.go ⟨_, _⟩ ?F ?N ?ho ?hk ?hr ?hi
        case F => assumption
        case N => assumption
        case ho => exact ho
        case hk =>
          intro p hp
          simp only [List.mem_cons, List.mem_nil_iff, or_false] at hp
          rcases hp with rfl; rfl
        case hr =>
          intro z hz1 hz2 hz3
          simp only [List.mem_cons, List.mem_nil_iff, or_false, forall_eq] at hz2
          simp only [if_neg hz1, if_neg hz2, List.contains_nil, Bool.false_eq_true, if_false]
        case hi => exact ⟨q + 1, by dsimp only; omega, (List.getElem?_eq_some_iff.mp hq).1, by rw [count_yes hpq hq hno, hpc]; omega⟩
  case done =>
    intro c u h tk hj F2 N2
    dsimp only [kstB, restOf] at F2 N2
    show wpAny _ _ _ _ _ _
    (try k_fold)
    k_steps
    show Value.bool true = Value.bool _
    rw [hj.done (by simp only [List.length_cons, List.length_append, List.length_nil]; omega)]
end
end Mine
-- part LawS2
namespace Mine
/-- one row of a lead -/
def rowStep (st : WSt) (n : Nat) : WSt := { cnt := bump st.cnt (n : Int), b := 0, n := st.n + ((n : Int) + 1), nt := st.nt + 1 }
theorem ws_row (n : Nat) (st : WSt) : (List.replicate n 32).foldl wsStep st = { st with b := st.b + (n : Int), n := st.n + (n : Int) } := by
  induction n generalizing st with
  | zero => simp
  | succ n ih =>
    rw [List.replicate_succ, List.foldl_cons, ih]
    unfold wsStep
    rw [if_pos rfl]
    have e1 : st.b + 1 + (n : Int) = st.b + ((n + 1 : Nat) : Int) := by omega
    have e2 : st.n + 1 + (n : Int) = st.n + ((n + 1 : Nat) : Int) := by omega
    show ({ st with b := st.b + 1 + (n : Int), n := st.n + 1 + (n : Int) } : WSt) = _
    rw [e1, e2]
theorem ws_rows : ∀ (r : List Nat) (st : WSt), st.b = 0 → (leadTxt r).foldl wsStep st = r.foldl rowStep st
  | [], _, _ => rfl
  | n :: r, st, h => by
    have e : leadTxt (n :: r) = List.replicate n 32 ++ (9 :: leadTxt r) := by
      unfold leadTxt; rw [List.map_cons, List.flatten_cons, List.append_assoc]; rfl
    rw [e, List.foldl_append, ws_row, List.foldl_cons, List.foldl_cons]
    have e2 : wsStep { st with b := st.b + (n : Int), n := st.n + (n : Int) } 9 = rowStep st n := by
      unfold wsStep rowStep
      rw [if_neg (by decide), h]
      have e1 : (0 : Int) + (n : Int) = (n : Int) := by omega
      have e3 : st.n + (n : Int) + 1 = st.n + ((n : Int) + 1) := by omega
      show ({ cnt := bump st.cnt (0 + (n : Int)), b := 0, n := st.n + (n : Int) + 1, nt := st.nt + 1 } : WSt) = _
      rw [e1, e3]
    rw [e2]
    exact ws_rows r _ rfl
def stL (r : List Nat) : WSt := r.foldl rowStep ⟨[], 0, 0, 0⟩
theorem stL_is (r : List Nat) : wsAll (leadTxt r) = stL r := ws_rows r _ rfl
end Mine
-- part LawQ2
namespace Mine
def allW : Nat → List (List Nat)
  | 0 => [[]]
  | n + 1 => (allW n).map (97 :: ·) ++ (allW n).map (98 :: ·)
theorem mem_allW : ∀ (n : Nat) (l : List Nat), l.length = n → (∀ c ∈ l, c = 97 ∨ c = 98) → l ∈ allW n
  | 0, l, h, _ => by rw [List.length_eq_zero_iff.mp h]; exact .head _
  | n + 1, [], h, _ => by cases h
  | n + 1, c :: l, h, hc => by
    have ih := mem_allW n l (Nat.succ.inj h) fun x hx => hc x (List.mem_cons_of_mem _ hx)
    unfold allW
    rcases hc c (List.mem_cons_self ..) with rfl | rfl
    · exact List.mem_append.mpr (.inl (List.mem_map_of_mem ih))
    · exact List.mem_append.mpr (.inr (List.mem_map_of_mem ih))
theorem allW_len : ∀ n, ∀ l ∈ allW n, l.length = n ∧ ∀ c ∈ l, c = 97 ∨ c = 98
  | 0, l, h => by
    rw [List.mem_singleton.mp h]; exact ⟨rfl, fun _ h => nomatch h⟩
  | n + 1, l, h => by
    unfold allW at h
    rcases List.mem_append.mp h with h | h
    · obtain ⟨r, hr, rfl⟩ := List.mem_map.mp h
      obtain ⟨h1, h2⟩ := allW_len n r hr
      exact ⟨by rw [List.length_cons, h1], fun c hc => by rcases List.mem_cons.mp hc with rfl | hc; exact .inl rfl; exact h2 c hc⟩
    · obtain ⟨r, hr, rfl⟩ := List.mem_map.mp h
      obtain ⟨h1, h2⟩ := allW_len n r hr
      exact ⟨by rw [List.length_cons, h1], fun c hc => by rcases List.mem_cons.mp hc with rfl | hc; exact .inr rfl; exact h2 c hc⟩
def let1 (v : Int) : Str := Txt.item (Str.ofString "ab") (Int.fmod v 2)
theorem let1_is (v : Int) : let1 v = mkS [if Int.fmod v 2 = 0 then 97 else 98] := by
  have h := fdiv_fmod_facts v 2
  have h2 : Int.fmod v 2 = 0 ∨ Int.fmod v 2 = 1 := by omega
  unfold let1
  rcases h2 with e | e
  · rw [e]; decide
  · rw [e]; decide
def letN (v : Int) : Nat := if Int.fmod v 2 = 0 then 97 else 98
theorem join_lets : ∀ vs : List Int, Txt.join ⟨#[]⟩ (vs.map let1) = mkS (vs.map letN) := by
  have key : ∀ (l : List Str) (xs : List (List Nat)), l = xs.map mkS → Txt.join ⟨#[]⟩ l = mkS xs.flatten := by
    intro l xs e
    rw [e]; exact join_mkS xs
  intro vs
  rw [key _ (vs.map fun v => [letN v]) (by rw [List.map_map]; exact List.map_congr_left fun v _ => let1_is v)]
  congr 1
  induction vs with
  | nil => rfl
  | cons v r ih => rw [List.map_cons, List.flatten_cons, ih]; rfl
theorem strs_comp {α : Type} {f : α → Str} {as : List α} {ys : List Value} (cv : CarriedAll ys ((as.filter fun _ => true).map fun q => PyData.str (f q))) : StrsAre ys (as.map f) := by
  rw [List.filter_eq_self.mpr (fun _ _ => rfl)] at cv
  refine StrsAre.ofCarried ?_
  rw [List.map_map]
  exact cv
theorem lets_len (vs : List Int) : ((vs.map let1).map (·.length)).sum = vs.length := by
  induction vs with
  | nil => rfl
  | cons v r ih => rw [List.map_cons, List.map_cons, List.sum_cons, ih, let1_is, List.length_cons]; show 1 + _ = _; omega
theorem ints_comp {α : Type} {f : α → Int} {as : List α} {ys : List Value} (cv : CarriedAll ys (as.map fun q => PyData.int (f q))) : IntsAre ys (as.map f) := by
  refine IntsAre.ofCarried ?_
  rw [List.map_map]
  exact cv
theorem made_ne {h₀ h h' : Heap} {L a : Addr} {o : Obj} {news l : List (Addr × Obj)} (N : News h₀ L h news) (M : MadeN h h' l) (hm : (a, o) ∈ l) : ∀ p ∈ news, p.1 ≠ a := fun p hp e => by
  have h1 := (N p hp).1
  have h2 := (M _ hm).2
  rw [e] at h1; rw [h1] at h2; cases h2
def AllNe (D : Nat) : List (Addr × Obj) → Prop
  | [] => True
  | p :: l => @Ne Nat p.1 D ∧ AllNe D l
theorem allNe_of {D : Addr} : ∀ {l : List (Addr × Obj)}, (∀ p ∈ l, p.1 ≠ D) → AllNe D l
  | [], _ => trivial
  | p :: l, h => ⟨h p (List.mem_cons_self ..), allNe_of fun q hq => h q (List.mem_cons_of_mem _ hq)⟩
/-- a mark: the walker goes past a stop -/
structure Passed : Prop where
  mk ::
theorem word7 (ns : List Int) : ∃ l ∈ allW 7, Txt.join (Str.ofString "") ((ns.take 7 ++ [1, 0, 0, 1, 1, 0, 1].drop ((ns.length : Int)).toNat).map let1) = mkS l := by
  refine ⟨_, ?_, (by rw [show Str.ofString "" = ⟨#[]⟩ from by decide]; exact join_lets _)⟩
  refine mem_allW 7 _ ?_ ?_
  · simp only [List.length_map, List.length_append, List.length_take, List.length_drop, List.length_cons, List.length_nil]; omega
  · intro c hc
    obtain ⟨v, _, rfl⟩ := List.mem_map.mp hc
    unfold letN
    split
    · exact .inl rfl
    · exact .inr rfl
theorem word7' {vs : List Value} {ns : List Int} (_ : IntsAre vs (ns.take 7 ++ [1, 0, 0, 1, 1, 0, 1].drop ((ns.length : Int)).toNat)) :
    ∃ l ∈ allW 7, Txt.join (Str.ofString "") ((ns.take 7 ++ [1, 0, 0, 1, 1, 0, 1].drop ((ns.length : Int)).toNat).map let1) = mkS l := word7 ns
section
variable {prog : Program} {w : World} {A : Around} {E : Value → Shared → Prop} {s : Shared} {h₀ : Heap} {L T1 C1 T2 C2 : Addr} {news : List (Addr × Obj)} {Q : Value → Shared → Prop} {vs1 vs2 : List Value} {ns1 ns2 : List Int} {b1 b2 : Int} {t1 t2 : Tok}
theorem ne_same (N : News h₀ L s.heap news) (m1 : (T1, tupObj #[.ref C1, .int b1 t1]) ∈ news) (m2 : (C1, tupObj vs1.toArray) ∈ news) (i1 : IntsAre vs1 ns1) (m3 : (T2, tupObj #[.ref C2, .int b2 t2]) ∈ news) (m4 : (C2, tupObj vs2.toArray) ∈ news) (i2 : IntsAre vs2 ns2)
    (hu : A.units + 64 < cLine) (e1 : ns1 = ns2) (e2 : b1 = b2) (h : Q (.bool false) s) : wpAny (model prog w) A (compareOp .NotEq (.ref T1) (.ref T2)) Q E s :=
  ne_norm N m1 m2 i1 m3 m4 i2 hu (by rw [e1, e2]; simpa using h)
end
noncomputable def sentTab : List (List Nat) := [[], [1], [2], [3], [4], [5], [6], [7], [1, 1], [1, 2], [2, 1], [2, 2], [2, 3], [3, 1], [3, 2], [3, 3], [3, 4], [4, 2], [4, 3], [4, 4], [4, 5], [5, 4], [5, 5], [5, 6], [6, 6], [1, 1, 1], [1, 1, 2], [1, 2, 1], [1, 2, 2], [1, 2, 3], [2, 1, 1], [2, 1, 2], [2, 2, 1], [2, 2, 2], [2, 2, 3], [2, 3, 1], [2, 3, 2], [2, 3, 3], [2, 3, 4], [3, 1, 2], [3, 2, 2], [3, 2, 3], [3, 3, 1], [3, 3, 2], [3, 3, 3], [3, 3, 4], [3, 4, 3], [3, 4, 4], [3, 4, 5], [4, 3, 3], [4, 4, 3], [4, 4, 4], [4, 4, 5], [4, 5, 5], [5, 5, 5], [1, 1, 1, 1], [1, 1, 1, 2], [1, 1, 2, 1], [1, 1, 2, 2], [1, 2, 1, 1], [1, 2, 1, 2], [1, 2, 2, 1], [1, 2, 2, 2], [1, 2, 2, 3], [1, 2, 3, 2], [1, 2, 3, 3], [1, 2, 3, 4], [2, 1, 1, 2], [2, 1, 2, 1], [2, 1, 2, 2], [2, 2, 1, 1], [2, 2, 1, 2], [2, 2, 2, 1], [2, 2, 2, 2], [2, 2, 2, 3], [2, 2, 3, 2], [2, 2, 3, 3], [2, 2, 3, 4], [2, 3, 2, 2], [2, 3, 3, 2], [2, 3, 3, 3], [2, 3, 3, 4], [2, 3, 4, 4], [3, 2, 2, 3], [3, 3, 2, 2], [3, 3, 3, 2], [3, 3, 3, 3], [3, 3, 3, 4], [3, 3, 4, 4], [3, 4, 4, 4], [4, 4, 4, 4], [1, 1, 1, 1, 1], [1, 1, 2, 2, 2], [1, 2, 1, 2, 2], [1, 2, 2, 1, 2], [1, 2, 2, 2, 1], [1, 2, 2, 2, 2], [1, 2, 3, 3, 3], [2, 1, 2, 2, 2], [2, 2, 1, 2, 2], [2, 2, 2, 1, 2], [2, 2, 2, 2, 1], [2, 2, 2, 2, 2], [2, 2, 3, 3, 3], [2, 3, 3, 3, 3], [3, 3, 3, 3, 3], [1, 1, 1, 1, 1, 1], [1, 2, 2, 2, 2, 2], [2, 2, 2, 2, 2, 2], [1, 1, 1, 1, 1, 1, 1]]
noncomputable def quoteL (p : List Nat × List Nat × List Nat) : Bool := decide (mailJ p.1 = mkS p.2.1) && decide (mailJ (p.1.map (· + 1)) = mkS p.2.2) && (subAll code2 ⟨p.2.1⟩ crlf == some (mkS p.2.1)) && (subAll code1 ⟨p.2.1⟩ dots == some (mkS p.2.2)) && decide (Txt.split (mkS p.2.2) crlf = splitJ p.1) && decide (p.2.1.length ≤ 200 ∧ p.2.2.length ≤ 200)
noncomputable def qT0 : List (List Nat × List Nat × List Nat) := [([], [], []), ([1], [46], [46, 46]), ([2], [46, 46], [46, 46, 46]), ([3], [46, 46, 46], [46, 46, 46, 46])]
theorem qt0 : qT0.all quoteL = true := by decide +kernel
noncomputable def qT1 : List (List Nat × List Nat × List Nat) := [([4], [46, 46, 46, 46], [46, 46, 46, 46, 46]), ([5], [46, 46, 46, 46, 46], [46, 46, 46, 46, 46, 46]), ([6], [46, 46, 46, 46, 46, 46], [46, 46, 46, 46, 46, 46, 46]), ([7], [46, 46, 46, 46, 46, 46, 46], [46, 46, 46, 46, 46, 46, 46, 46])]
theorem qt1 : qT1.all quoteL = true := by decide +kernel
noncomputable def qT2 : List (List Nat × List Nat × List Nat) := [([1, 1], [46, 13, 10, 46], [46, 46, 13, 10, 46, 46]), ([1, 2], [46, 13, 10, 46, 46], [46, 46, 13, 10, 46, 46, 46]), ([2, 1], [46, 46, 13, 10, 46], [46, 46, 46, 13, 10, 46, 46]), ([2, 2], [46, 46, 13, 10, 46, 46], [46, 46, 46, 13, 10, 46, 46, 46])]
theorem qt2 : qT2.all quoteL = true := by decide +kernel
noncomputable def qT3 : List (List Nat × List Nat × List Nat) := [([2, 3], [46, 46, 13, 10, 46, 46, 46], [46, 46, 46, 13, 10, 46, 46, 46, 46]), ([3, 1], [46, 46, 46, 13, 10, 46], [46, 46, 46, 46, 13, 10, 46, 46]), ([3, 2], [46, 46, 46, 13, 10, 46, 46], [46, 46, 46, 46, 13, 10, 46, 46, 46]), ([3, 3], [46, 46, 46, 13, 10, 46, 46, 46], [46, 46, 46, 46, 13, 10, 46, 46, 46, 46])]
theorem qt3 : qT3.all quoteL = true := by decide +kernel
noncomputable def qT4 : List (List Nat × List Nat × List Nat) := [([3, 4], [46, 46, 46, 13, 10, 46, 46, 46, 46], [46, 46, 46, 46, 13, 10, 46, 46, 46, 46, 46]), ([4, 2], [46, 46, 46, 46, 13, 10, 46, 46], [46, 46, 46, 46, 46, 13, 10, 46, 46, 46]), ([4, 3], [46, 46, 46, 46, 13, 10, 46, 46, 46], [46, 46, 46, 46, 46, 13, 10, 46, 46, 46, 46]), ([4, 4], [46, 46, 46, 46, 13, 10, 46, 46, 46, 46], [46, 46, 46, 46, 46, 13, 10, 46, 46, 46, 46, 46])]
theorem qt4 : qT4.all quoteL = true := by decide +kernel
noncomputable def qT5 : List (List Nat × List Nat × List Nat) := [([4, 5], [46, 46, 46, 46, 13, 10, 46, 46, 46, 46, 46], [46, 46, 46, 46, 46, 13, 10, 46, 46, 46, 46, 46, 46]), ([5, 4], [46, 46, 46, 46, 46, 13, 10, 46, 46, 46, 46], [46, 46, 46, 46, 46, 46, 13, 10, 46, 46, 46, 46, 46]), ([5, 5], [46, 46, 46, 46, 46, 13, 10, 46, 46, 46, 46, 46], [46, 46, 46, 46, 46, 46, 13, 10, 46, 46, 46, 46, 46, 46]), ([5, 6], [46, 46, 46, 46, 46, 13, 10, 46, 46, 46, 46, 46, 46], [46, 46, 46, 46, 46, 46, 13, 10, 46, 46, 46, 46, 46, 46, 46])]
theorem qt5 : qT5.all quoteL = true := by decide +kernel
noncomputable def qT6 : List (List Nat × List Nat × List Nat) := [([6, 6], [46, 46, 46, 46, 46, 46, 13, 10, 46, 46, 46, 46, 46, 46], [46, 46, 46, 46, 46, 46, 46, 13, 10, 46, 46, 46, 46, 46, 46, 46]), ([1, 1, 1], [46, 13, 10, 46, 13, 10, 46], [46, 46, 13, 10, 46, 46, 13, 10, 46, 46]), ([1, 1, 2], [46, 13, 10, 46, 13, 10, 46, 46], [46, 46, 13, 10, 46, 46, 13, 10, 46, 46, 46]), ([1, 2, 1], [46, 13, 10, 46, 46, 13, 10, 46], [46, 46, 13, 10, 46, 46, 46, 13, 10, 46, 46])]
theorem qt6 : qT6.all quoteL = true := by decide +kernel
noncomputable def qT7 : List (List Nat × List Nat × List Nat) := [([1, 2, 2], [46, 13, 10, 46, 46, 13, 10, 46, 46], [46, 46, 13, 10, 46, 46, 46, 13, 10, 46, 46, 46]), ([1, 2, 3], [46, 13, 10, 46, 46, 13, 10, 46, 46, 46], [46, 46, 13, 10, 46, 46, 46, 13, 10, 46, 46, 46, 46]), ([2, 1, 1], [46, 46, 13, 10, 46, 13, 10, 46], [46, 46, 46, 13, 10, 46, 46, 13, 10, 46, 46]), ([2, 1, 2], [46, 46, 13, 10, 46, 13, 10, 46, 46], [46, 46, 46, 13, 10, 46, 46, 13, 10, 46, 46, 46])]
theorem qt7 : qT7.all quoteL = true := by decide +kernel
noncomputable def qT8 : List (List Nat × List Nat × List Nat) := [([2, 2, 1], [46, 46, 13, 10, 46, 46, 13, 10, 46], [46, 46, 46, 13, 10, 46, 46, 46, 13, 10, 46, 46]), ([2, 2, 2], [46, 46, 13, 10, 46, 46, 13, 10, 46, 46], [46, 46, 46, 13, 10, 46, 46, 46, 13, 10, 46, 46, 46]), ([2, 2, 3], [46, 46, 13, 10, 46, 46, 13, 10, 46, 46, 46], [46, 46, 46, 13, 10, 46, 46, 46, 13, 10, 46, 46, 46, 46]), ([2, 3, 1], [46, 46, 13, 10, 46, 46, 46, 13, 10, 46], [46, 46, 46, 13, 10, 46, 46, 46, 46, 13, 10, 46, 46])]
theorem qt8 : qT8.all quoteL = true := by decide +kernel
noncomputable def qT9 : List (List Nat × List Nat × List Nat) := [([2, 3, 2], [46, 46, 13, 10, 46, 46, 46, 13, 10, 46, 46], [46, 46, 46, 13, 10, 46, 46, 46, 46, 13, 10, 46, 46, 46]), ([2, 3, 3], [46, 46, 13, 10, 46, 46, 46, 13, 10, 46, 46, 46], [46, 46, 46, 13, 10, 46, 46, 46, 46, 13, 10, 46, 46, 46, 46]), ([2, 3, 4], [46, 46, 13, 10, 46, 46, 46, 13, 10, 46, 46, 46, 46], [46, 46, 46, 13, 10, 46, 46, 46, 46, 13, 10, 46, 46, 46, 46, 46]), ([3, 1, 2], [46, 46, 46, 13, 10, 46, 13, 10, 46, 46], [46, 46, 46, 46, 13, 10, 46, 46, 13, 10, 46, 46, 46])]
theorem qt9 : qT9.all quoteL = true := by decide +kernel
noncomputable def qT10 : List (List Nat × List Nat × List Nat) := [([3, 2, 2], [46, 46, 46, 13, 10, 46, 46, 13, 10, 46, 46], [46, 46, 46, 46, 13, 10, 46, 46, 46, 13, 10, 46, 46, 46]), ([3, 2, 3], [46, 46, 46, 13, 10, 46, 46, 13, 10, 46, 46, 46], [46, 46, 46, 46, 13, 10, 46, 46, 46, 13, 10, 46, 46, 46, 46]), ([3, 3, 1], [46, 46, 46, 13, 10, 46, 46, 46, 13, 10, 46], [46, 46, 46, 46, 13, 10, 46, 46, 46, 46, 13, 10, 46, 46]), ([3, 3, 2], [46, 46, 46, 13, 10, 46, 46, 46, 13, 10, 46, 46], [46, 46, 46, 46, 13, 10, 46, 46, 46, 46, 13, 10, 46, 46, 46])]
theorem qt10 : qT10.all quoteL = true := by decide +kernel
noncomputable def qT11 : List (List Nat × List Nat × List Nat) := [([3, 3, 3], [46, 46, 46, 13, 10, 46, 46, 46, 13, 10, 46, 46, 46], [46, 46, 46, 46, 13, 10, 46, 46, 46, 46, 13, 10, 46, 46, 46, 46]), ([3, 3, 4], [46, 46, 46, 13, 10, 46, 46, 46, 13, 10, 46, 46, 46, 46], [46, 46, 46, 46, 13, 10, 46, 46, 46, 46, 13, 10, 46, 46, 46, 46, 46]), ([3, 4, 3], [46, 46, 46, 13, 10, 46, 46, 46, 46, 13, 10, 46, 46, 46], [46, 46, 46, 46, 13, 10, 46, 46, 46, 46, 46, 13, 10, 46, 46, 46, 46]), ([3, 4, 4], [46, 46, 46, 13, 10, 46, 46, 46, 46, 13, 10, 46, 46, 46, 46], [46, 46, 46, 46, 13, 10, 46, 46, 46, 46, 46, 13, 10, 46, 46, 46, 46, 46])]
theorem qt11 : qT11.all quoteL = true := by decide +kernel
noncomputable def qT12 : List (List Nat × List Nat × List Nat) := [([3, 4, 5], [46, 46, 46, 13, 10, 46, 46, 46, 46, 13, 10, 46, 46, 46, 46, 46], [46, 46, 46, 46, 13, 10, 46, 46, 46, 46, 46, 13, 10, 46, 46, 46, 46, 46, 46]), ([4, 3, 3], [46, 46, 46, 46, 13, 10, 46, 46, 46, 13, 10, 46, 46, 46], [46, 46, 46, 46, 46, 13, 10, 46, 46, 46, 46, 13, 10, 46, 46, 46, 46]), ([4, 4, 3], [46, 46, 46, 46, 13, 10, 46, 46, 46, 46, 13, 10, 46, 46, 46], [46, 46, 46, 46, 46, 13, 10, 46, 46, 46, 46, 46, 13, 10, 46, 46, 46, 46]), ([4, 4, 4], [46, 46, 46, 46, 13, 10, 46, 46, 46, 46, 13, 10, 46, 46, 46, 46], [46, 46, 46, 46, 46, 13, 10, 46, 46, 46, 46, 46, 13, 10, 46, 46, 46, 46, 46])]
theorem qt12 : qT12.all quoteL = true := by decide +kernel
noncomputable def qT13 : List (List Nat × List Nat × List Nat) := [([4, 4, 5], [46, 46, 46, 46, 13, 10, 46, 46, 46, 46, 13, 10, 46, 46, 46, 46, 46], [46, 46, 46, 46, 46, 13, 10, 46, 46, 46, 46, 46, 13, 10, 46, 46, 46, 46, 46, 46]), ([4, 5, 5], [46, 46, 46, 46, 13, 10, 46, 46, 46, 46, 46, 13, 10, 46, 46, 46, 46, 46], [46, 46, 46, 46, 46, 13, 10, 46, 46, 46, 46, 46, 46, 13, 10, 46, 46, 46, 46, 46, 46]), ([5, 5, 5], [46, 46, 46, 46, 46, 13, 10, 46, 46, 46, 46, 46, 13, 10, 46, 46, 46, 46, 46], [46, 46, 46, 46, 46, 46, 13, 10, 46, 46, 46, 46, 46, 46, 13, 10, 46, 46, 46, 46, 46, 46]), ([1, 1, 1, 1], [46, 13, 10, 46, 13, 10, 46, 13, 10, 46], [46, 46, 13, 10, 46, 46, 13, 10, 46, 46, 13, 10, 46, 46])]
theorem qt13 : qT13.all quoteL = true := by decide +kernel
noncomputable def qT14 : List (List Nat × List Nat × List Nat) := [([1, 1, 1, 2], [46, 13, 10, 46, 13, 10, 46, 13, 10, 46, 46], [46, 46, 13, 10, 46, 46, 13, 10, 46, 46, 13, 10, 46, 46, 46]), ([1, 1, 2, 1], [46, 13, 10, 46, 13, 10, 46, 46, 13, 10, 46], [46, 46, 13, 10, 46, 46, 13, 10, 46, 46, 46, 13, 10, 46, 46]), ([1, 1, 2, 2], [46, 13, 10, 46, 13, 10, 46, 46, 13, 10, 46, 46], [46, 46, 13, 10, 46, 46, 13, 10, 46, 46, 46, 13, 10, 46, 46, 46]), ([1, 2, 1, 1], [46, 13, 10, 46, 46, 13, 10, 46, 13, 10, 46], [46, 46, 13, 10, 46, 46, 46, 13, 10, 46, 46, 13, 10, 46, 46])]
theorem qt14 : qT14.all quoteL = true := by decide +kernel
noncomputable def qT15 : List (List Nat × List Nat × List Nat) := [([1, 2, 1, 2], [46, 13, 10, 46, 46, 13, 10, 46, 13, 10, 46, 46], [46, 46, 13, 10, 46, 46, 46, 13, 10, 46, 46, 13, 10, 46, 46, 46]), ([1, 2, 2, 1], [46, 13, 10, 46, 46, 13, 10, 46, 46, 13, 10, 46], [46, 46, 13, 10, 46, 46, 46, 13, 10, 46, 46, 46, 13, 10, 46, 46]), ([1, 2, 2, 2], [46, 13, 10, 46, 46, 13, 10, 46, 46, 13, 10, 46, 46], [46, 46, 13, 10, 46, 46, 46, 13, 10, 46, 46, 46, 13, 10, 46, 46, 46]), ([1, 2, 2, 3], [46, 13, 10, 46, 46, 13, 10, 46, 46, 13, 10, 46, 46, 46], [46, 46, 13, 10, 46, 46, 46, 13, 10, 46, 46, 46, 13, 10, 46, 46, 46, 46])]
theorem qt15 : qT15.all quoteL = true := by decide +kernel
noncomputable def qT16 : List (List Nat × List Nat × List Nat) := [([1, 2, 3, 2], [46, 13, 10, 46, 46, 13, 10, 46, 46, 46, 13, 10, 46, 46], [46, 46, 13, 10, 46, 46, 46, 13, 10, 46, 46, 46, 46, 13, 10, 46, 46, 46]), ([1, 2, 3, 3], [46, 13, 10, 46, 46, 13, 10, 46, 46, 46, 13, 10, 46, 46, 46], [46, 46, 13, 10, 46, 46, 46, 13, 10, 46, 46, 46, 46, 13, 10, 46, 46, 46, 46]), ([1, 2, 3, 4], [46, 13, 10, 46, 46, 13, 10, 46, 46, 46, 13, 10, 46, 46, 46, 46], [46, 46, 13, 10, 46, 46, 46, 13, 10, 46, 46, 46, 46, 13, 10, 46, 46, 46, 46, 46]), ([2, 1, 1, 2], [46, 46, 13, 10, 46, 13, 10, 46, 13, 10, 46, 46], [46, 46, 46, 13, 10, 46, 46, 13, 10, 46, 46, 13, 10, 46, 46, 46])]
theorem qt16 : qT16.all quoteL = true := by decide +kernel
noncomputable def qT17 : List (List Nat × List Nat × List Nat) := [([2, 1, 2, 1], [46, 46, 13, 10, 46, 13, 10, 46, 46, 13, 10, 46], [46, 46, 46, 13, 10, 46, 46, 13, 10, 46, 46, 46, 13, 10, 46, 46]), ([2, 1, 2, 2], [46, 46, 13, 10, 46, 13, 10, 46, 46, 13, 10, 46, 46], [46, 46, 46, 13, 10, 46, 46, 13, 10, 46, 46, 46, 13, 10, 46, 46, 46]), ([2, 2, 1, 1], [46, 46, 13, 10, 46, 46, 13, 10, 46, 13, 10, 46], [46, 46, 46, 13, 10, 46, 46, 46, 13, 10, 46, 46, 13, 10, 46, 46]), ([2, 2, 1, 2], [46, 46, 13, 10, 46, 46, 13, 10, 46, 13, 10, 46, 46], [46, 46, 46, 13, 10, 46, 46, 46, 13, 10, 46, 46, 13, 10, 46, 46, 46])]
theorem qt17 : qT17.all quoteL = true := by decide +kernel
noncomputable def qT18 : List (List Nat × List Nat × List Nat) := [([2, 2, 2, 1], [46, 46, 13, 10, 46, 46, 13, 10, 46, 46, 13, 10, 46], [46, 46, 46, 13, 10, 46, 46, 46, 13, 10, 46, 46, 46, 13, 10, 46, 46]), ([2, 2, 2, 2], [46, 46, 13, 10, 46, 46, 13, 10, 46, 46, 13, 10, 46, 46], [46, 46, 46, 13, 10, 46, 46, 46, 13, 10, 46, 46, 46, 13, 10, 46, 46, 46]), ([2, 2, 2, 3], [46, 46, 13, 10, 46, 46, 13, 10, 46, 46, 13, 10, 46, 46, 46], [46, 46, 46, 13, 10, 46, 46, 46, 13, 10, 46, 46, 46, 13, 10, 46, 46, 46, 46]), ([2, 2, 3, 2], [46, 46, 13, 10, 46, 46, 13, 10, 46, 46, 46, 13, 10, 46, 46], [46, 46, 46, 13, 10, 46, 46, 46, 13, 10, 46, 46, 46, 46, 13, 10, 46, 46, 46])]
theorem qt18 : qT18.all quoteL = true := by decide +kernel
noncomputable def qT19 : List (List Nat × List Nat × List Nat) := [([2, 2, 3, 3], [46, 46, 13, 10, 46, 46, 13, 10, 46, 46, 46, 13, 10, 46, 46, 46], [46, 46, 46, 13, 10, 46, 46, 46, 13, 10, 46, 46, 46, 46, 13, 10, 46, 46, 46, 46]), ([2, 2, 3, 4], [46, 46, 13, 10, 46, 46, 13, 10, 46, 46, 46, 13, 10, 46, 46, 46, 46], [46, 46, 46, 13, 10, 46, 46, 46, 13, 10, 46, 46, 46, 46, 13, 10, 46, 46, 46, 46, 46]), ([2, 3, 2, 2], [46, 46, 13, 10, 46, 46, 46, 13, 10, 46, 46, 13, 10, 46, 46], [46, 46, 46, 13, 10, 46, 46, 46, 46, 13, 10, 46, 46, 46, 13, 10, 46, 46, 46]), ([2, 3, 3, 2], [46, 46, 13, 10, 46, 46, 46, 13, 10, 46, 46, 46, 13, 10, 46, 46], [46, 46, 46, 13, 10, 46, 46, 46, 46, 13, 10, 46, 46, 46, 46, 13, 10, 46, 46, 46])]
theorem qt19 : qT19.all quoteL = true := by decide +kernel
noncomputable def qT20 : List (List Nat × List Nat × List Nat) := [([2, 3, 3, 3], [46, 46, 13, 10, 46, 46, 46, 13, 10, 46, 46, 46, 13, 10, 46, 46, 46], [46, 46, 46, 13, 10, 46, 46, 46, 46, 13, 10, 46, 46, 46, 46, 13, 10, 46, 46, 46, 46]), ([2, 3, 3, 4], [46, 46, 13, 10, 46, 46, 46, 13, 10, 46, 46, 46, 13, 10, 46, 46, 46, 46], [46, 46, 46, 13, 10, 46, 46, 46, 46, 13, 10, 46, 46, 46, 46, 13, 10, 46, 46, 46, 46, 46]), ([2, 3, 4, 4], [46, 46, 13, 10, 46, 46, 46, 13, 10, 46, 46, 46, 46, 13, 10, 46, 46, 46, 46], [46, 46, 46, 13, 10, 46, 46, 46, 46, 13, 10, 46, 46, 46, 46, 46, 13, 10, 46, 46, 46, 46, 46]), ([3, 2, 2, 3], [46, 46, 46, 13, 10, 46, 46, 13, 10, 46, 46, 13, 10, 46, 46, 46], [46, 46, 46, 46, 13, 10, 46, 46, 46, 13, 10, 46, 46, 46, 13, 10, 46, 46, 46, 46])]
theorem qt20 : qT20.all quoteL = true := by decide +kernel
noncomputable def qT21 : List (List Nat × List Nat × List Nat) := [([3, 3, 2, 2], [46, 46, 46, 13, 10, 46, 46, 46, 13, 10, 46, 46, 13, 10, 46, 46], [46, 46, 46, 46, 13, 10, 46, 46, 46, 46, 13, 10, 46, 46, 46, 13, 10, 46, 46, 46]), ([3, 3, 3, 2], [46, 46, 46, 13, 10, 46, 46, 46, 13, 10, 46, 46, 46, 13, 10, 46, 46], [46, 46, 46, 46, 13, 10, 46, 46, 46, 46, 13, 10, 46, 46, 46, 46, 13, 10, 46, 46, 46]), ([3, 3, 3, 3], [46, 46, 46, 13, 10, 46, 46, 46, 13, 10, 46, 46, 46, 13, 10, 46, 46, 46], [46, 46, 46, 46, 13, 10, 46, 46, 46, 46, 13, 10, 46, 46, 46, 46, 13, 10, 46, 46, 46, 46]), ([3, 3, 3, 4], [46, 46, 46, 13, 10, 46, 46, 46, 13, 10, 46, 46, 46, 13, 10, 46, 46, 46, 46], [46, 46, 46, 46, 13, 10, 46, 46, 46, 46, 13, 10, 46, 46, 46, 46, 13, 10, 46, 46, 46, 46, 46])]
theorem qt21 : qT21.all quoteL = true := by decide +kernel
noncomputable def qT22 : List (List Nat × List Nat × List Nat) := [([3, 3, 4, 4], [46, 46, 46, 13, 10, 46, 46, 46, 13, 10, 46, 46, 46, 46, 13, 10, 46, 46, 46, 46], [46, 46, 46, 46, 13, 10, 46, 46, 46, 46, 13, 10, 46, 46, 46, 46, 46, 13, 10, 46, 46, 46, 46, 46]), ([3, 4, 4, 4], [46, 46, 46, 13, 10, 46, 46, 46, 46, 13, 10, 46, 46, 46, 46, 13, 10, 46, 46, 46, 46], [46, 46, 46, 46, 13, 10, 46, 46, 46, 46, 46, 13, 10, 46, 46, 46, 46, 46, 13, 10, 46, 46, 46, 46, 46]), ([4, 4, 4, 4], [46, 46, 46, 46, 13, 10, 46, 46, 46, 46, 13, 10, 46, 46, 46, 46, 13, 10, 46, 46, 46, 46], [46, 46, 46, 46, 46, 13, 10, 46, 46, 46, 46, 46, 13, 10, 46, 46, 46, 46, 46, 13, 10, 46, 46, 46, 46, 46]), ([1, 1, 1, 1, 1], [46, 13, 10, 46, 13, 10, 46, 13, 10, 46, 13, 10, 46], [46, 46, 13, 10, 46, 46, 13, 10, 46, 46, 13, 10, 46, 46, 13, 10, 46, 46])]
theorem qt22 : qT22.all quoteL = true := by decide +kernel
noncomputable def qT23 : List (List Nat × List Nat × List Nat) := [([1, 1, 2, 2, 2], [46, 13, 10, 46, 13, 10, 46, 46, 13, 10, 46, 46, 13, 10, 46, 46], [46, 46, 13, 10, 46, 46, 13, 10, 46, 46, 46, 13, 10, 46, 46, 46, 13, 10, 46, 46, 46]), ([1, 2, 1, 2, 2], [46, 13, 10, 46, 46, 13, 10, 46, 13, 10, 46, 46, 13, 10, 46, 46], [46, 46, 13, 10, 46, 46, 46, 13, 10, 46, 46, 13, 10, 46, 46, 46, 13, 10, 46, 46, 46]), ([1, 2, 2, 1, 2], [46, 13, 10, 46, 46, 13, 10, 46, 46, 13, 10, 46, 13, 10, 46, 46], [46, 46, 13, 10, 46, 46, 46, 13, 10, 46, 46, 46, 13, 10, 46, 46, 13, 10, 46, 46, 46]), ([1, 2, 2, 2, 1], [46, 13, 10, 46, 46, 13, 10, 46, 46, 13, 10, 46, 46, 13, 10, 46], [46, 46, 13, 10, 46, 46, 46, 13, 10, 46, 46, 46, 13, 10, 46, 46, 46, 13, 10, 46, 46])]
theorem qt23 : qT23.all quoteL = true := by decide +kernel
noncomputable def qT24 : List (List Nat × List Nat × List Nat) := [([1, 2, 2, 2, 2], [46, 13, 10, 46, 46, 13, 10, 46, 46, 13, 10, 46, 46, 13, 10, 46, 46], [46, 46, 13, 10, 46, 46, 46, 13, 10, 46, 46, 46, 13, 10, 46, 46, 46, 13, 10, 46, 46, 46]), ([1, 2, 3, 3, 3], [46, 13, 10, 46, 46, 13, 10, 46, 46, 46, 13, 10, 46, 46, 46, 13, 10, 46, 46, 46], [46, 46, 13, 10, 46, 46, 46, 13, 10, 46, 46, 46, 46, 13, 10, 46, 46, 46, 46, 13, 10, 46, 46, 46, 46]), ([2, 1, 2, 2, 2], [46, 46, 13, 10, 46, 13, 10, 46, 46, 13, 10, 46, 46, 13, 10, 46, 46], [46, 46, 46, 13, 10, 46, 46, 13, 10, 46, 46, 46, 13, 10, 46, 46, 46, 13, 10, 46, 46, 46]), ([2, 2, 1, 2, 2], [46, 46, 13, 10, 46, 46, 13, 10, 46, 13, 10, 46, 46, 13, 10, 46, 46], [46, 46, 46, 13, 10, 46, 46, 46, 13, 10, 46, 46, 13, 10, 46, 46, 46, 13, 10, 46, 46, 46])]
theorem qt24 : qT24.all quoteL = true := by decide +kernel
noncomputable def qT25 : List (List Nat × List Nat × List Nat) := [([2, 2, 2, 1, 2], [46, 46, 13, 10, 46, 46, 13, 10, 46, 46, 13, 10, 46, 13, 10, 46, 46], [46, 46, 46, 13, 10, 46, 46, 46, 13, 10, 46, 46, 46, 13, 10, 46, 46, 13, 10, 46, 46, 46]), ([2, 2, 2, 2, 1], [46, 46, 13, 10, 46, 46, 13, 10, 46, 46, 13, 10, 46, 46, 13, 10, 46], [46, 46, 46, 13, 10, 46, 46, 46, 13, 10, 46, 46, 46, 13, 10, 46, 46, 46, 13, 10, 46, 46]), ([2, 2, 2, 2, 2], [46, 46, 13, 10, 46, 46, 13, 10, 46, 46, 13, 10, 46, 46, 13, 10, 46, 46], [46, 46, 46, 13, 10, 46, 46, 46, 13, 10, 46, 46, 46, 13, 10, 46, 46, 46, 13, 10, 46, 46, 46]), ([2, 2, 3, 3, 3], [46, 46, 13, 10, 46, 46, 13, 10, 46, 46, 46, 13, 10, 46, 46, 46, 13, 10, 46, 46, 46], [46, 46, 46, 13, 10, 46, 46, 46, 13, 10, 46, 46, 46, 46, 13, 10, 46, 46, 46, 46, 13, 10, 46, 46, 46, 46])]
theorem qt25 : qT25.all quoteL = true := by decide +kernel
noncomputable def qT26 : List (List Nat × List Nat × List Nat) := [([2, 3, 3, 3, 3], [46, 46, 13, 10, 46, 46, 46, 13, 10, 46, 46, 46, 13, 10, 46, 46, 46, 13, 10, 46, 46, 46], [46, 46, 46, 13, 10, 46, 46, 46, 46, 13, 10, 46, 46, 46, 46, 13, 10, 46, 46, 46, 46, 13, 10, 46, 46, 46, 46]), ([3, 3, 3, 3, 3], [46, 46, 46, 13, 10, 46, 46, 46, 13, 10, 46, 46, 46, 13, 10, 46, 46, 46, 13, 10, 46, 46, 46], [46, 46, 46, 46, 13, 10, 46, 46, 46, 46, 13, 10, 46, 46, 46, 46, 13, 10, 46, 46, 46, 46, 13, 10, 46, 46, 46, 46]), ([1, 1, 1, 1, 1, 1], [46, 13, 10, 46, 13, 10, 46, 13, 10, 46, 13, 10, 46, 13, 10, 46], [46, 46, 13, 10, 46, 46, 13, 10, 46, 46, 13, 10, 46, 46, 13, 10, 46, 46, 13, 10, 46, 46]), ([1, 2, 2, 2, 2, 2], [46, 13, 10, 46, 46, 13, 10, 46, 46, 13, 10, 46, 46, 13, 10, 46, 46, 13, 10, 46, 46], [46, 46, 13, 10, 46, 46, 46, 13, 10, 46, 46, 46, 13, 10, 46, 46, 46, 13, 10, 46, 46, 46, 13, 10, 46, 46, 46])]
theorem qt26 : qT26.all quoteL = true := by decide +kernel
noncomputable def qT27 : List (List Nat × List Nat × List Nat) := [([2, 2, 2, 2, 2, 2], [46, 46, 13, 10, 46, 46, 13, 10, 46, 46, 13, 10, 46, 46, 13, 10, 46, 46, 13, 10, 46, 46], [46, 46, 46, 13, 10, 46, 46, 46, 13, 10, 46, 46, 46, 13, 10, 46, 46, 46, 13, 10, 46, 46, 46, 13, 10, 46, 46, 46]), ([1, 1, 1, 1, 1, 1, 1], [46, 13, 10, 46, 13, 10, 46, 13, 10, 46, 13, 10, 46, 13, 10, 46, 13, 10, 46], [46, 46, 13, 10, 46, 46, 13, 10, 46, 46, 13, 10, 46, 46, 13, 10, 46, 46, 13, 10, 46, 46, 13, 10, 46, 46])]
theorem qt27 : qT27.all quoteL = true := by decide +kernel
noncomputable def qA28 : List (List Nat × List Nat × List Nat) := []
theorem qa28 : ∀ p ∈ qA28, quoteL p = true := fun _ h => nomatch h
noncomputable def qA27 : List (List Nat × List Nat × List Nat) := qT27 ++ qA28
theorem qa27 : ∀ p ∈ qA27, quoteL p = true := fun p hp => (List.mem_append.mp hp).elim (List.all_eq_true.mp qt27 p) (qa28 p)
noncomputable def qA26 : List (List Nat × List Nat × List Nat) := qT26 ++ qA27
theorem qa26 : ∀ p ∈ qA26, quoteL p = true := fun p hp => (List.mem_append.mp hp).elim (List.all_eq_true.mp qt26 p) (qa27 p)
noncomputable def qA25 : List (List Nat × List Nat × List Nat) := qT25 ++ qA26
theorem qa25 : ∀ p ∈ qA25, quoteL p = true := fun p hp => (List.mem_append.mp hp).elim (List.all_eq_true.mp qt25 p) (qa26 p)
noncomputable def qA24 : List (List Nat × List Nat × List Nat) := qT24 ++ qA25
theorem qa24 : ∀ p ∈ qA24, quoteL p = true := fun p hp => (List.mem_append.mp hp).elim (List.all_eq_true.mp qt24 p) (qa25 p)
noncomputable def qA23 : List (List Nat × List Nat × List Nat) := qT23 ++ qA24
theorem qa23 : ∀ p ∈ qA23, quoteL p = true := fun p hp => (List.mem_append.mp hp).elim (List.all_eq_true.mp qt23 p) (qa24 p)
noncomputable def qA22 : List (List Nat × List Nat × List Nat) := qT22 ++ qA23
theorem qa22 : ∀ p ∈ qA22, quoteL p = true := fun p hp => (List.mem_append.mp hp).elim (List.all_eq_true.mp qt22 p) (qa23 p)
noncomputable def qA21 : List (List Nat × List Nat × List Nat) := qT21 ++ qA22
theorem qa21 : ∀ p ∈ qA21, quoteL p = true := fun p hp => (List.mem_append.mp hp).elim (List.all_eq_true.mp qt21 p) (qa22 p)
noncomputable def qA20 : List (List Nat × List Nat × List Nat) := qT20 ++ qA21
theorem qa20 : ∀ p ∈ qA20, quoteL p = true := fun p hp => (List.mem_append.mp hp).elim (List.all_eq_true.mp qt20 p) (qa21 p)
noncomputable def qA19 : List (List Nat × List Nat × List Nat) := qT19 ++ qA20
theorem qa19 : ∀ p ∈ qA19, quoteL p = true := fun p hp => (List.mem_append.mp hp).elim (List.all_eq_true.mp qt19 p) (qa20 p)
noncomputable def qA18 : List (List Nat × List Nat × List Nat) := qT18 ++ qA19
theorem qa18 : ∀ p ∈ qA18, quoteL p = true := fun p hp => (List.mem_append.mp hp).elim (List.all_eq_true.mp qt18 p) (qa19 p)
noncomputable def qA17 : List (List Nat × List Nat × List Nat) := qT17 ++ qA18
theorem qa17 : ∀ p ∈ qA17, quoteL p = true := fun p hp => (List.mem_append.mp hp).elim (List.all_eq_true.mp qt17 p) (qa18 p)
noncomputable def qA16 : List (List Nat × List Nat × List Nat) := qT16 ++ qA17
theorem qa16 : ∀ p ∈ qA16, quoteL p = true := fun p hp => (List.mem_append.mp hp).elim (List.all_eq_true.mp qt16 p) (qa17 p)
noncomputable def qA15 : List (List Nat × List Nat × List Nat) := qT15 ++ qA16
theorem qa15 : ∀ p ∈ qA15, quoteL p = true := fun p hp => (List.mem_append.mp hp).elim (List.all_eq_true.mp qt15 p) (qa16 p)
noncomputable def qA14 : List (List Nat × List Nat × List Nat) := qT14 ++ qA15
theorem qa14 : ∀ p ∈ qA14, quoteL p = true := fun p hp => (List.mem_append.mp hp).elim (List.all_eq_true.mp qt14 p) (qa15 p)
noncomputable def qA13 : List (List Nat × List Nat × List Nat) := qT13 ++ qA14
theorem qa13 : ∀ p ∈ qA13, quoteL p = true := fun p hp => (List.mem_append.mp hp).elim (List.all_eq_true.mp qt13 p) (qa14 p)
noncomputable def qA12 : List (List Nat × List Nat × List Nat) := qT12 ++ qA13
theorem qa12 : ∀ p ∈ qA12, quoteL p = true := fun p hp => (List.mem_append.mp hp).elim (List.all_eq_true.mp qt12 p) (qa13 p)
noncomputable def qA11 : List (List Nat × List Nat × List Nat) := qT11 ++ qA12
theorem qa11 : ∀ p ∈ qA11, quoteL p = true := fun p hp => (List.mem_append.mp hp).elim (List.all_eq_true.mp qt11 p) (qa12 p)
noncomputable def qA10 : List (List Nat × List Nat × List Nat) := qT10 ++ qA11
theorem qa10 : ∀ p ∈ qA10, quoteL p = true := fun p hp => (List.mem_append.mp hp).elim (List.all_eq_true.mp qt10 p) (qa11 p)
noncomputable def qA9 : List (List Nat × List Nat × List Nat) := qT9 ++ qA10
theorem qa9 : ∀ p ∈ qA9, quoteL p = true := fun p hp => (List.mem_append.mp hp).elim (List.all_eq_true.mp qt9 p) (qa10 p)
noncomputable def qA8 : List (List Nat × List Nat × List Nat) := qT8 ++ qA9
theorem qa8 : ∀ p ∈ qA8, quoteL p = true := fun p hp => (List.mem_append.mp hp).elim (List.all_eq_true.mp qt8 p) (qa9 p)
noncomputable def qA7 : List (List Nat × List Nat × List Nat) := qT7 ++ qA8
theorem qa7 : ∀ p ∈ qA7, quoteL p = true := fun p hp => (List.mem_append.mp hp).elim (List.all_eq_true.mp qt7 p) (qa8 p)
noncomputable def qA6 : List (List Nat × List Nat × List Nat) := qT6 ++ qA7
theorem qa6 : ∀ p ∈ qA6, quoteL p = true := fun p hp => (List.mem_append.mp hp).elim (List.all_eq_true.mp qt6 p) (qa7 p)
noncomputable def qA5 : List (List Nat × List Nat × List Nat) := qT5 ++ qA6
theorem qa5 : ∀ p ∈ qA5, quoteL p = true := fun p hp => (List.mem_append.mp hp).elim (List.all_eq_true.mp qt5 p) (qa6 p)
noncomputable def qA4 : List (List Nat × List Nat × List Nat) := qT4 ++ qA5
theorem qa4 : ∀ p ∈ qA4, quoteL p = true := fun p hp => (List.mem_append.mp hp).elim (List.all_eq_true.mp qt4 p) (qa5 p)
noncomputable def qA3 : List (List Nat × List Nat × List Nat) := qT3 ++ qA4
theorem qa3 : ∀ p ∈ qA3, quoteL p = true := fun p hp => (List.mem_append.mp hp).elim (List.all_eq_true.mp qt3 p) (qa4 p)
noncomputable def qA2 : List (List Nat × List Nat × List Nat) := qT2 ++ qA3
theorem qa2 : ∀ p ∈ qA2, quoteL p = true := fun p hp => (List.mem_append.mp hp).elim (List.all_eq_true.mp qt2 p) (qa3 p)
noncomputable def qA1 : List (List Nat × List Nat × List Nat) := qT1 ++ qA2
theorem qa1 : ∀ p ∈ qA1, quoteL p = true := fun p hp => (List.mem_append.mp hp).elim (List.all_eq_true.mp qt1 p) (qa2 p)
noncomputable def qA0 : List (List Nat × List Nat × List Nat) := qT0 ++ qA1
theorem qa0 : ∀ p ∈ qA0, quoteL p = true := fun p hp => (List.mem_append.mp hp).elim (List.all_eq_true.mp qt0 p) (qa1 p)
theorem qA_is : sentTab = qA0.map (·.1) := by decide +kernel
theorem sent_all : (allW 7).all (fun l => [97, 98].all fun c => (List.range 7).all fun k => sentTab.contains (sentR c (rowsK c l k) (l.drop k))) = true := by decide +kernel
theorem quoteOk {l : List Nat} (hl : l ∈ allW 7) {c : Nat} (hc : c = 97 ∨ c = 98) : ∀ k, k < 7 → QuoteJ (sentR c (rowsK c l k) (l.drop k)) := by
  intro k hk
  have h := List.all_eq_true.mp (List.all_eq_true.mp (List.all_eq_true.mp sent_all l hl) c (by rcases hc with rfl | rfl <;> simp)) k (List.mem_range.mpr hk)
  have h2 := List.contains_iff_mem.mp h
  rw [qA_is] at h2
  obtain ⟨⟨r, a, b⟩, hp, e⟩ := List.mem_map.mp h2
  have g := qa0 _ hp
  dsimp only at e
  rw [← e]
  simp only [quoteL, Bool.and_eq_true, beq_iff_eq, decide_eq_true_eq] at g
  obtain ⟨⟨⟨⟨⟨g1, g2⟩, g3⟩, g4⟩, g5⟩, g6, g7⟩ := g
  refine ⟨?_, ?_, ?_, ?_, ?_⟩
  · rw [g1]; exact g3
  · rw [g1, g2]; exact g4
  · rw [g2]; exact g5
  · rw [g1, len_mkS]; exact g6
  · rw [g2, len_mkS]; exact g7
end Mine
-- part Loop4
namespace Mine
section
variable {prog : Program} {w : World} {A : Around} {E : Value → Shared → Prop} {s : Shared} {env : Env} {h₀ : Heap} {x : Str} {px : Pos} {body : List Stmt} {Q : Flow → Shared → Prop}
theorem iterT_range {σ : Type} {r : Addr} {a₀ b₀ : Int} {t₀ u₀ v₀ : Tok} {n : Nat} {m₀ : Str → Option Value} (Led : σ → List (Addr × Obj)) (ps : σ → List (Str × Value)) (stored : List Str) (Inv : Nat → σ → Prop) (c₀ : σ)
    (hh : A.handled = none) (hr : IsRange s.heap r a₀ b₀ 1 t₀ u₀ v₀) (hsmall : Builtin.Range.small a₀ b₀ 1 = true) (hn : Builtin.Range.rangeSize a₀ b₀ 1 = (n : Int)) (F : Fr h₀ env.locals s.heap m₀) (N : News h₀ env.locals s.heap (Led c₀)) (hk : ∀ p ∈ ps c₀, m₀ p.1 = some p.2) (hi : Inv 0 c₀)
    (turn : ∀ (i : Nat) t (c : σ) (u : Str → Option Value) (s₁ : Shared) own I oI, i < n → Inv i c → (∀ p ∈ Led c, p.1 ≠ I) → (I, oI) ∈ own → (∀ p ∈ own, p.1 = I) →
      Fr h₀ env.locals s₁.heap (fun y => if y = Str.ofString "?" then u y else kstB (fun z => if stored.contains z then u z else m₀ z) (ps c) y) → News h₀ env.locals s₁.heap (Led c ++ own) →
      wpAny (model prog w) A (assign (.Name x px) env (.int (a₀ + (i : Int)) t)) (fun _ s₃ => wpAny (model prog w) A (execs body env) (TurnEndT h₀ env.locals I m₀ Led ps stored (Inv (i + 1)) own s₁) E s₃) E s₁)
    (done : ∀ (c : σ) (u : Str → Option Value) h tk, Inv n c → Fr h₀ env.locals h (fun y => if y = Str.ofString "?" then u y else kstB (fun z => if stored.contains z then u z else m₀ z) (ps c) y) → News h₀ env.locals h (Led c) → Q .next { s with heap := h, toks := tk }) :
    wpAny (model prog w) A (pyIter (.ref r)) (fun it s₂ => LoopAtT prog w A h₀ env (.Name x px) body Q E it s₂) E s := by
  refine wpAny_pyIter_range hr hsmall ?_
  have W := Walks.range (prog := prog) (w := w) hh s.heap.objs.size a₀ 1 n
  let J : Nat → (Str → Option Value) → List (Addr × Obj) → Prop := fun i m news => ∃ c, news = Led c ∧ (∀ p ∈ ps c, m p.1 = some p.2) ∧ (∀ z, z ≠ Str.ofString "?" → (∀ p ∈ ps c, z ≠ p.1) → stored.contains z = false → m z = m₀ z) ∧ Inv i c
  refine ⟨s.heap.objs.size, [s.heap.objs.size], [s.heap.objs.size], n, _, _, m₀, Led c₀, J, rfl, W, ?_, ?_, ?_, (by show IsRangeIter _ _ _ _ _; rw [hn]; simpa using Heap.get?_push_size _ rfl), F.push _, (fun p hp => ⟨Heap.get?_push_of_some _ (N p hp).1, (N p hp).2⟩), (fun i s' v Q' st hQ' => wpAny_of_eq rfl hQ'), ⟨c₀, rfl, hk, fun _ _ _ _ => rfl, hi⟩, ?_, ?_⟩
  · intro hm; exact absurd F.ns.lt ((List.mem_singleton.mp hm) ▸ Nat.lt_irrefl _)
  · intro b hb; rw [List.mem_singleton.mp hb]; exact next_is_new F
  · intro p hp hm; exact absurd (List.mem_singleton.mp hm) (Nat.ne_of_lt (Heap.lt_size (N p hp).1))
  · rintro i v m₁ news₁ s₁ own hin ⟨t, rfl⟩ ⟨c, rfl, h1, h2, hj⟩ hoff hown _ hall hst₁ F₁ N₁
    have e1 : a₀ + (i : Int) * 1 = a₀ + (i : Int) := by omega
    rw [e1]
    have hoI : s₁.heap.get? s.heap.objs.size = some _ := hst₁
    have hoff' : ∀ p ∈ Led c, p.1 ≠ s.heap.objs.size := fun p hp e => hoff p hp (List.mem_singleton.mpr e)
    have hmem := hall _ (List.mem_cons_self ..) (next_is_new F) _ hoI
    refine wpAny_mono (turn i t c m₁ s₁ own _ _ hin hj hoff' hmem (fun p hp => List.mem_singleton.mp (hown p hp)) (kst_frT (σ := σ) h1 h2 F₁) (fun p hp => N₁ p ((List.mem_append.mp hp).elim (fun h => List.mem_append.mpr (.inr h)) fun h => List.mem_append.mpr (.inl h))))
      (fun _ s₃ z => wpAny_mono z (fun f s₂ z => ?_) fun _ _ e => e) fun _ _ e => e
    obtain ⟨rfl, h', tk, m', c', e, F', N', ho, g1, g2, g3⟩ := z
    exact ⟨rfl, h', tk, m', Led c', e, F', fun p hp => N' p ((List.mem_append.mp hp).elim (fun h => List.mem_append.mpr (.inr h)) fun h => List.mem_append.mpr (.inl h)), fun p hp hm => ho p hp (List.mem_singleton.mp hm), c', rfl, g1, g2, g3⟩
  · rintro h' tk m' news' F' N' _ ⟨c, rfl, h1, h2, hj⟩
    exact done c m' h' tk hj (kst_frT (σ := σ) h1 h2 F') N'
end
end Mine
-- part Lb2
namespace Mine
/-- what a call has made lies off what stood before -/
theorem made_off {h₀ h h' : Heap} {L D : Addr} {o : Obj} {news acc : List (Addr × Obj)} (N : News h₀ L h news) (M : MadeN h h' ((D, o) :: acc)) : OwnOff acc (news.map (·.1)) := by
  intro p hp b hb e
  obtain ⟨q, hq, rfl⟩ := List.mem_map.mp hb
  have h1 := (N q hq).1
  have h2 := (M p (List.mem_cons_of_mem _ hp)).2
  rw [e, h1] at h2; cases h2
/-- the heavy tail goes to the end -/
abbrev midTail {h₀ h : Heap} {L : Addr} {d c1 c2 c3 c4 c5 c6 c7 : Addr × Obj} {acc : List (Addr × Obj)} (_ : News h₀ L h (d :: (acc ++ [c1, c2, c3, c4, c5, c6, c7]))) : List (Addr × Obj) := d :: c1 :: c2 :: c3 :: c4 :: c5 :: c6 :: c7 :: acc
theorem mid_tail {h₀ h : Heap} {L : Addr} {d c1 c2 c3 c4 c5 c6 c7 : Addr × Obj} {acc : List (Addr × Obj)} (N : News h₀ L h (d :: (acc ++ [c1, c2, c3, c4, c5, c6, c7]))) : News h₀ L h (midTail N) := by
  intro p hp
  refine N p ?_
  simp only [midTail, List.mem_cons, List.mem_append, List.mem_nil_iff, or_false] at hp ⊢
  grind
abbrev midTail2 {h₀ h : Heap} {L : Addr} {d e c1 c2 c3 c4 c5 c6 c7 : Addr × Obj} {acc acc2 : List (Addr × Obj)} (_ : News h₀ L h (e :: (acc2 ++ (d :: c1 :: c2 :: c3 :: c4 :: c5 :: c6 :: c7 :: acc)))) : List (Addr × Obj) := d :: e :: c1 :: c2 :: c3 :: c4 :: c5 :: c6 :: c7 :: (acc ++ acc2)
theorem mid_tail2 {h₀ h : Heap} {L : Addr} {d e c1 c2 c3 c4 c5 c6 c7 : Addr × Obj} {acc acc2 : List (Addr × Obj)} (N : News h₀ L h (e :: (acc2 ++ (d :: c1 :: c2 :: c3 :: c4 :: c5 :: c6 :: c7 :: acc)))) : News h₀ L h (midTail2 N) := by
  intro p hp
  refine N p ?_
  simp only [midTail2, List.mem_cons, List.mem_append] at hp ⊢
  grind
theorem off_app {a b : List (Addr × Obj)} {l : List Addr} (h1 : OwnOff a l) (h2 : OwnOff b l) : OwnOff (a ++ b) l := fun p hp => (List.mem_append.mp hp).elim (h1 p) (h2 p)
theorem off_sub {a : List (Addr × Obj)} {l l' : List Addr} (h : OwnOff a l) (hs : ∀ b ∈ l', b ∈ l) : OwnOff a l' := fun p hp b hb => h p hp b (hs b hb)
theorem off_cons {a : List (Addr × Obj)} {l : List Addr} {T : Addr} (h : OwnOff a l) (hT : ∀ p ∈ a, p.1 ≠ T) : OwnOff a (T :: l) := fun p hp b hb => by
  rcases List.mem_cons.mp hb with rfl | hb
  · exact hT p hp
  · exact h p hp b hb
theorem lt_all {d : Addr} : ∀ {l : List (Addr × Obj)}, AllLt d l → ∀ p ∈ l, p.1 < d
  | [], _, _, h => nomatch h
  | _ :: _, h, p, hp => by
    rcases List.mem_cons.mp hp with rfl | hp
    · exact h.1
    · exact lt_all h.2 p hp
theorem leadsB (w : World) (l : List Nat) (t1 t2 : Tok) (hl : l ∈ allW 7) : Pure1 w 550 5500 133 [.str (mkS l) t1, .str (Str.ofString "b") t2] (LeadsRes w.params 98 l) := by
  have eb : Str.ofString "b" = mkS [98] := by decide
  rw [eb]
  exact leads w l 98 t1 t2 (allW_len 7 l hl).1 (allW_len 7 l hl).2 (.inr rfl) (quoteOk hl (.inr rfl))
theorem leadsA (w : World) (l : List Nat) (t1 t2 : Tok) (hl : l ∈ allW 7) : Pure1 w 550 5500 133 [.str (mkS l) t1, .str (Str.ofString "a") t2] (LeadsRes w.params 97 l) := by
  have eb : Str.ofString "a" = mkS [97] := by decide
  rw [eb]
  exact leads w l 97 t1 t2 (allW_len 7 l hl).1 (allW_len 7 l hl).2 (.inl rfl) (quoteOk hl (.inl rfl))
/-- how many of the k + 1 letters from j on are b's -/
def bAt (l : List Nat) (j k : Nat) : Nat := ((l.drop j).take (k + 1)).count 98
def cntsN (l : List Nat) (k : Nat) : List Nat := (List.range (7 - k)).map fun j => bAt l j k
def topN (l : List Nat) (k : Nat) : Nat := (cntsN l k).foldl max 0
def topsK (l : List Nat) (i : Nat) : List Int := (List.range i).map fun (k : Nat) => (topN l k : Int)
def formK (l : List Nat) : Nat → List Nat
  | 0 => []
  | k + 1 => formK l k ++ [if topN l k - (formK l k).count 98 = 0 then 97 else 98]
def cntF (l : List Nat) (k j : Int) : Int := Txt.count (Txt.slice (mkS l) (some j) (some (j + k + 1))) (Str.ofString "b")
theorem small7 {i : Nat} (h : i < 7) : Builtin.Range.small 0 (7 - (0 + (i : Int))) 1 = true := by
  match i, h with
  | 0, _ => decide
  | 1, _ => decide
  | 2, _ => decide
  | 3, _ => decide
  | 4, _ => decide
  | 5, _ => decide
  | 6, _ => decide
theorem size7 {i : Nat} (h : i < 7) : Builtin.Range.rangeSize 0 (7 - (0 + (i : Int))) 1 = ((7 - i : Nat) : Int) := by
  match i, h with
  | 0, _ => decide
  | 1, _ => decide
  | 2, _ => decide
  | 3, _ => decide
  | 4, _ => decide
  | 5, _ => decide
  | 6, _ => decide
def cntsI (l : List Nat) (k : Nat) : List Int := (cntsN l k).map fun (n : Nat) => (n : Int)
theorem cnt_list (x : List Nat) (c : Nat) : Txt.count (mkS x) ⟨#[c]⟩ = ((x.count c : Nat) : Int) := by
  rw [count_cnt]
  show cnt c x = _
  induction x with
  | nil => rfl
  | cons n r ih =>
    rw [cnt_cons, ih, List.count_cons]
    by_cases h : n = c
    · subst h; simp; omega
    · have : (n == c) = false := by simp [h]
      simp [h]
theorem cntF_is {l : List Nat} (hl : l.length = 7) {i j : Nat} (hij : j + i < 7) : cntF l (0 + (i : Int)) (0 + (j : Int) * 1) = (bAt l j i : Nat) := by
  unfold cntF bAt
  have e1 : (0 + (j : Int) * 1) = (j : Int) := by omega
  have e2 : ((j : Int) + (0 + (i : Int)) + 1) = ((j + i + 1 : Nat) : Int) := by omega
  have e3 : Str.ofString "b" = ⟨#[98]⟩ := by decide
  rw [e1, e2, e3, slice_mid (by omega) (by omega), cnt_list]
  have : j + i + 1 - j = i + 1 := by omega
  rw [this]
theorem cnts_is {l : List Nat} (hl : l.length = 7) {i : Nat} (hi : i < 7) {ys : List Value} (h : IntsAre ys (((rangeInts 0 1 (7 - i)).filter fun _ => true).map (cntF l (0 + (i : Int))))) : IntsAre ys (cntsI l i) := by
  rw [List.filter_eq_self.mpr (fun _ _ => rfl)] at h
  have e : (rangeInts 0 1 (7 - i)).map (cntF l (0 + (i : Int))) = cntsI l i := by
    unfold cntsI cntsN rangeInts
    rw [List.map_map, List.map_map]
    refine List.map_congr_left fun j hj => ?_
    have := List.mem_range.mp hj
    exact cntF_is hl (by omega)
  rw [e] at h
  exact h
theorem add_led {h₀ h : Heap} {L : Addr} {news l : List (Addr × Obj)} (N : News h₀ L h news) (hm : ∀ p ∈ l, p ∈ news) : News h₀ L h (l ++ news) := fun p hp => N p ((List.mem_append.mp hp).elim (hm p) id)
theorem in_tail {p d t da db c7 c6 c5 c4 c3 c2 c1 : Addr × Obj} {big own : List (Addr × Obj)} (h : p ∈ big ∨ p ∈ own) : p ∈ d :: t :: da :: db :: c7 :: c6 :: c5 :: c4 :: c3 :: c2 :: c1 :: (big ++ own) := by
  simp only [List.mem_cons, List.mem_append]
  rcases h with h | h <;> simp [h]
theorem in_tail2 {p e1 e2 e3 e4 d t da db c7 c6 c5 c4 c3 c2 c1 : Addr × Obj} {big own : List (Addr × Obj)} (h : p ∈ big ∨ p ∈ own) : p ∈ [e1, e2, e3, e4] ++ d :: t :: da :: db :: c7 :: c6 :: c5 :: c4 :: c3 :: c2 :: c1 :: (big ++ own) := List.mem_append_right _ (in_tail h)
theorem led_off {P : Params} {x dx tn tc b : Addr} {vs : List Value} {raw : Str} {st : WSt} {k : WsKeys} {big own : List (Addr × Obj)} {adr : List Addr} (hm : ∀ p ∈ wsLed P 100 x dx tn tc vs raw st k, p ∈ big) (ho : OwnOff (big ++ own) adr) (hb : b ∈ adr) :
    tn ≠ b ∧ tc ≠ b ∧ x ≠ b ∧ dx ≠ b :=
  ⟨ho _ (List.mem_append_left _ (hm _ (.head _))) b hb, ho _ (List.mem_append_left _ (hm _ (.tail _ (.head _)))) b hb, ho _ (List.mem_append_left _ (hm _ (.tail _ (.tail _ (.head _))))) b hb, ho _ (List.mem_append_left _ (hm _ (.tail _ (.tail _ (.tail _ (.head _)))))) b hb⟩
theorem foldmax_ge : ∀ (l : List Nat) (a : Nat), a ≤ l.foldl max a ∧ ∀ x ∈ l, x ≤ l.foldl max a
  | [], a => ⟨Nat.le_refl _, fun _ h => nomatch h⟩
  | y :: l, a => by
    have h := foldmax_ge l (max a y)
    rw [List.foldl_cons]
    refine ⟨by omega, fun x hx => ?_⟩
    rcases List.mem_cons.mp hx with rfl | hx
    · omega
    · exact h.2 x hx
theorem foldmax_mem : ∀ (l : List Nat) (a : Nat), l.foldl max a = a ∨ l.foldl max a ∈ l
  | [], a => .inl rfl
  | y :: l, a => by
    rw [List.foldl_cons]
    rcases foldmax_mem l (max a y) with h | h
    · rw [h]
      by_cases e : a ≤ y
      · exact .inr (by rw [Nat.max_eq_right e]; exact List.mem_cons_self ..)
      · exact .inl (Nat.max_eq_left (by omega))
    · exact .inr (List.mem_cons_of_mem _ h)
theorem bAt_le (l : List Nat) (j k : Nat) : bAt l j k ≤ k + 1 := by
  unfold bAt
  exact Nat.le_trans List.count_le_length (by rw [List.length_take]; exact Nat.min_le_left _ _)
theorem topN_le (l : List Nat) (k : Nat) : topN l k ≤ k + 1 := by
  unfold topN
  rcases foldmax_mem (cntsN l k) 0 with h | h
  · rw [h]; exact Nat.zero_le _
  · unfold cntsN at h ⊢
    obtain ⟨j, _, e⟩ := List.mem_map.mp h
    rw [← e]; exact bAt_le l j k
theorem cntsI_len (l : List Nat) (k : Nat) : (cntsI l k).length = 7 - k := by unfold cntsI cntsN; simp
section
variable {prog : Program} {w : World} {A : Around} {E : Value → Shared → Prop} {s : Shared} {h₀ : Heap} {L D : Addr} {m : Str → Option Value} {news : List (Addr × Obj)} {vs : List Value} {n k : Nat} {l : List Nat} {Q : Value → Shared → Prop}
theorem max_C (F : Fr h₀ L s.heap m) (N : News h₀ L s.heap news) (hm : (D, W.listOf vs.toArray n) ∈ news) (hi : IntsAre vs (cntsI l k)) (hk : k < 7) (hh : A.handled = none)
    (h : ∀ h' (t : Tok) tk, Fr h₀ L h' m → News h₀ L h' news → Q (.int (topN l k : Int) t) { s with heap := h', toks := tk }) : wpAny (model prog w) A (call (.builtin "max") [.ref D]) Q E s := by
  refine kso_max F N (News.isList N hm) hi (by rw [cntsI_len]; omega) hh fun h' M t tk F' N' h1 h2 => ?_
  have e : M = (topN l k : Int) := by
    unfold cntsI at h1 h2
    obtain ⟨x, hx, rfl⟩ := List.mem_map.mp h1
    have g := (foldmax_ge (cntsN l k) 0).2 x hx
    rcases foldmax_mem (cntsN l k) 0 with hm' | hm'
    · have : topN l k = 0 := hm'
      unfold topN at this ⊢
      omega
    · have := h2 _ (List.mem_map.mpr ⟨_, hm', rfl⟩)
      unfold topN
      omega
  rw [e]; exact h h' t tk F' N'
end
section
variable {prog : Program} {w : World} {A : Around} {E : Value → Shared → Prop} {s : Shared} {h₀ : Heap} {L D : Addr} {m : Str → Option Value} {news : List (Addr × Obj)} {vs : List Value} {ns : List Int} {z : Nat} {a b : Int} {t u : Tok} {Q : Value → Shared → Prop}
theorem len_TI (N : News h₀ L s.heap news) (hm : (D, tupObj vs.toArray) ∈ news) (hi : IntsAre vs ns) (hz : ns.length = z) (hzz : z ≤ 100000)
    (h : ∀ t' tk, Q (.int (z : Int) t') { s with toks := tk }) : wpAny (model prog w) A (call (.builtin "len") [.ref D]) Q E s := by
  have e : vs.length = z := by rw [hi.length, hz]
  refine len_tuple (t := D) (items := vs.toArray) ⟨_, (N _ hm).1, rfl, _, rfl⟩ (by rw [List.size_toArray, e]; omega) ?_
  rw [List.size_toArray, e]; exact h _ _
theorem max_run (hb : b = 0) (h0 : 0 ≤ a) (hh : A.handled = none) (F : Fr h₀ L s.heap m) (N : News h₀ L s.heap news)
    (h : ∀ h' tk, Fr h₀ L h' m → News h₀ L h' news → Q (.int a t) { s with heap := h', toks := tk }) : wpAny (model prog w) A (call (.builtin "max") [.int a t, .int b u]) Q E s := by
  refine max_two_N hh F N fun h' tk F' N' => ?_
  have hn : ¬ (b > a) := by omega
  rw [if_neg hn, if_neg hn]
  exact h h' tk F' N'
end
def normI (l : List Nat) (k : Nat) : List Int := (((rangeInts (-1) 1 ((topN l k : Int) + 1 - -1).toNat).filter fun _ => true).map fun q => (((cntsI l k).count q : Nat) : Int))
def leadB2 (l : List Nat) : Bool := (List.range 7).all fun i => decide ((stL (rowsK 98 l (i + 1))).cnt = normI l i ∧ (stL (rowsK 98 l (i + 1))).b = 0 ∧ (stL (rowsK 98 l (i + 1))).cnt.length = topN l i + 2)
theorem lead_all2 : (allW 7).all leadB2 = true := by decide +kernel
theorem leadOk2 {l : List Nat} (hl : l ∈ allW 7) {i : Nat} (hi : i < 7) : (wsAll (leadTxt (rowsK 98 l (i + 1)))).cnt = normI l i ∧ (wsAll (leadTxt (rowsK 98 l (i + 1)))).b = 0 ∧ (wsAll (leadTxt (rowsK 98 l (i + 1)))).cnt.length = topN l i + 2 := by
  have h := List.all_eq_true.mp (List.all_eq_true.mp lead_all2 l hl) i (List.mem_range.mpr hi)
  rw [stL_is]
  exact of_decide_eq_true h
/-- the most a's of a stretch -/
def topA (l : List Nat) (k : Nat) : Nat := ((List.range (7 - k)).map fun j => ((l.drop j).take (k + 1)).count 97).foldl max 0
def leadB3 (l : List Nat) : Bool := (List.range 7).all fun i => decide ((stL (rowsK 97 l (i + 1))).b = 0 ∧ (stL (rowsK 97 l (i + 1))).cnt.length = topA l i + 2)
theorem lead_all3 : (allW 7).all leadB3 = true := by decide +kernel
theorem leadOk3 {l : List Nat} (hl : l ∈ allW 7) {i : Nat} (hi : i < 7) : (wsAll (leadTxt (rowsK 97 l (i + 1)))).b = 0 ∧ (wsAll (leadTxt (rowsK 97 l (i + 1)))).cnt.length = topA l i + 2 := by
  have h := List.all_eq_true.mp (List.all_eq_true.mp lead_all3 l hl) i (List.mem_range.mpr hi)
  rw [stL_is]
  exact of_decide_eq_true h
theorem topA_le (l : List Nat) (k : Nat) : topA l k ≤ k + 1 := by
  unfold topA
  rcases foldmax_mem ((List.range (7 - k)).map fun j => ((l.drop j).take (k + 1)).count 97) 0 with h | h
  · rw [h]; exact Nat.zero_le _
  · obtain ⟨j, _, e⟩ := List.mem_map.mp h
    rw [← e]
    exact Nat.le_trans List.count_le_length (by rw [List.length_take]; exact Nat.min_le_left _ _)
end Mine
-- part SetA
namespace Mine
/-- the table of a set of small ints, each in its own place -/
def tabV (V : List Nat) (led : Bool) : SetTable := { mask := 7, place := V.toArray, dummies := #[], finger := 0, led := led, moves := 0, plain := true }
/-- a set of small ints, told by a number's bits -/
def vOf (m : Nat) : List Nat := (List.range 8).filter fun i => m.testBit i
def withV (m v : Nat) : Nat := m ||| 1 <<< v
def mOf (ns : List Nat) : Nat := ns.foldl withV 0
/-- the masks of a run of at most four neighbours (no other set comes up) -/
def fewM : List Nat := [0, 1, 2, 4, 8, 16, 32, 64, 128, 3, 6, 12, 24, 48, 96, 192, 7, 14, 28, 56, 112, 224, 15, 30, 60, 120, 240]
/-- the same, as a number's bits -/
def fewK : Nat := 1766874024725057757324827554438769712864368034496534298892819003844186591
def isFew (m : Nat) : Bool := Nat.blt m 256 && Nat.beq (fewK / 2 ^ m % 2) 1
def stepT (led : Bool) (m v : Nat) : Bool :=
  let V := vOf m
  let V' := vOf (withV m v)
  m.testBit v || decide (4 < V'.length) || (decide ((tabV V led).freeSlot (v : Int) = some (v, false)) && decide ((tabV V led).put v = (tabV V' led, SetTable.below V.toArray v))
    && (tabV V' led).fits V'.length && decide (V'.length = V.length + 1) && !(tabV V' led).tooFull && decide (SetTable.insertAt V.toArray (SetTable.below V.toArray v) v = V'.toArray))
theorem step_all : [true, false].all (fun led => fewM.all fun m => (List.range 8).all fun v => stepT led m v) = true := by decide +kernel
/-- where the walk of the places stands ahead of the i-th element -/
def slotAt (V : List Nat) (i : Nat) : Nat := match i with | 0 => 0 | i + 1 => V.getD i 0 + 1
def walkT (m : Nat) : Bool := let V := vOf m; (List.range (V.length + 1)).all fun i => decide (SetTable.below V.toArray (slotAt V i) = i)
theorem walk_all : fewM.all walkT = true := by decide +kernel
def fitT (led : Bool) (m : Nat) : Bool := (tabV (vOf m) led).fits (vOf m).length && decide (m < 256)
theorem fit_all : [true, false].all (fun led => fewM.all fun m => fitT led m) = true := by decide +kernel
theorem few_all : (List.range 256).all (fun m => !isFew m || fewM.contains m) = true := by decide +kernel
theorem few_of {m : Nat} (h : isFew m = true) : m ∈ fewM := by
  have hm : m < 256 := Nat.le_of_ble_eq_true (Bool.and_eq_true_iff.mp h).1
  have g := List.all_eq_true.mp few_all m (List.mem_range.mpr hm)
  rw [h] at g
  exact List.contains_iff_mem.mp g
theorem few_len_all : fewM.all (fun m => decide ((vOf m).length ≤ 4)) = true := by decide +kernel
theorem few_len {m : Nat} (h : m ∈ fewM) : (vOf m).length ≤ 4 := of_decide_eq_true (List.all_eq_true.mp few_len_all m h)
theorem bool_mem (b : Bool) : b ∈ [true, false] := by cases b <;> simp
theorem fit_ok (led : Bool) {m : Nat} (hm : m ∈ fewM) : (tabV (vOf m) led).fits (vOf m).length = true := by
  have h := List.all_eq_true.mp (List.all_eq_true.mp fit_all led (bool_mem led)) m hm
  simp only [fitT, Bool.and_eq_true] at h
  exact h.1
theorem walk_ok {m : Nat} (hm : m ∈ fewM) {i : Nat} (hi : i ≤ (vOf m).length) : SetTable.below (vOf m).toArray (slotAt (vOf m) i) = i :=
  of_decide_eq_true (List.all_eq_true.mp (List.all_eq_true.mp walk_all m hm) i (List.mem_range.mpr (Nat.lt_succ_of_le hi)))
theorem step_ok (led : Bool) {m v : Nat} (hm : m ∈ fewM) (hv : v < 8) (hn : m.testBit v = false) (hl : (vOf (withV m v)).length ≤ 4) :
    (tabV (vOf m) led).freeSlot (v : Int) = some (v, false) ∧ (tabV (vOf m) led).put v = (tabV (vOf (withV m v)) led, SetTable.below (vOf m).toArray v) ∧
      (tabV (vOf (withV m v)) led).fits (vOf (withV m v)).length = true ∧ (vOf (withV m v)).length = (vOf m).length + 1 ∧ (tabV (vOf (withV m v)) led).tooFull = false ∧
      SetTable.insertAt (vOf m).toArray (SetTable.below (vOf m).toArray v) v = (vOf (withV m v)).toArray := by
  have h := List.all_eq_true.mp (List.all_eq_true.mp (List.all_eq_true.mp step_all led (bool_mem led)) m hm) v (List.mem_range.mpr hv)
  simp only [stepT, hn, Bool.false_or, Bool.or_eq_true, Bool.and_eq_true, decide_eq_true_eq, Bool.not_eq_true'] at h
  rcases h with h | h
  · omega
  · obtain ⟨⟨⟨⟨⟨h1, h2⟩, h3⟩, h4⟩, h5⟩, h6⟩ := h
    exact ⟨h1, h2, h3, h4, h5, h6⟩
/-- the set's elements are these small ints -/
def EsOf (es : Array (Int × Value)) (V : List Nat) : Prop := es.toList.map (·.1) = V.map (fun (n : Nat) => (n : Int)) ∧ ∀ e ∈ es.toList, ∃ t, e.2 = .int e.1 t
theorem insertAt_list {α : Type} (xs : Array α) (p : Nat) (x : α) : (SetTable.insertAt xs p x).toList = xs.toList.take p ++ x :: xs.toList.drop p := by
  unfold SetTable.insertAt
  simp only [Array.toList_append, Array.toList_push, Array.toList_extract, List.extract, List.drop_zero, Nat.sub_zero, List.append_assoc, List.cons_append, List.nil_append]
  rw [List.take_of_length_le (l := List.drop p xs.toList) (by simp)]
theorem EsOf.size {es : Array (Int × Value)} {V : List Nat} (h : EsOf es V) : es.size = V.length := by
  have := congrArg List.length h.1
  simpa using this
theorem EsOf.put {es : Array (Int × Value)} {V V' : List Nat} {p v : Nat} (h : EsOf es V) (t : Tok) (hV : SetTable.insertAt V.toArray p v = V'.toArray) : EsOf (SetTable.insertAt es p ((v : Int), .int (v : Int) t)) V' := by
  have e : V' = V.take p ++ v :: V.drop p := by
    have := congrArg Array.toList hV
    rw [insertAt_list] at this
    simpa using this.symm
  refine ⟨?_, fun x hx => ?_⟩
  · rw [insertAt_list, e, List.map_append, List.map_append, List.map_cons, List.map_cons, List.map_take, List.map_drop, List.map_take, List.map_drop, h.1]
  · rw [insertAt_list] at hx
    rcases List.mem_append.mp hx with hx | hx
    · exact h.2 x (List.mem_of_mem_take hx)
    · rcases List.mem_cons.mp hx with rfl | hx
      · exact ⟨t, rfl⟩
      · exact h.2 x (List.mem_of_mem_drop hx)
theorem EsOf.at {es : Array (Int × Value)} {V : List Nat} (h : EsOf es V) {e : Int × Value} (he : e ∈ es.toList) : ∃ v ∈ V, ∃ t, e = ((v : Int), .int (v : Int) t) := by
  have hm : e.1 ∈ V.map (fun (n : Nat) => (n : Int)) := h.1 ▸ List.mem_map.mpr ⟨e, he, rfl⟩
  obtain ⟨v, hv, ev⟩ := List.mem_map.mp hm
  obtain ⟨t, et⟩ := h.2 e he
  obtain ⟨a, b⟩ := e
  subst ev; dsimp only at et; subst et
  exact ⟨v, hv, t, rfl⟩
theorem EsOf.of_mem {es : Array (Int × Value)} {V : List Nat} (h : EsOf es V) {v : Nat} (hv : v ∈ V) : ∃ t, ((v : Int), Value.int (v : Int) t) ∈ es.toList := by
  have hm : (v : Int) ∈ es.toList.map (·.1) := h.1 ▸ List.mem_map.mpr ⟨v, hv, rfl⟩
  obtain ⟨e, he, e1⟩ := List.mem_map.mp hm
  obtain ⟨t, et⟩ := h.2 e he
  obtain ⟨a, b⟩ := e
  dsimp only at e1 et; subst et; subst e1
  exact ⟨t, he⟩
theorem mem_vOf {m v : Nat} : v ∈ vOf m ↔ v < 8 ∧ m.testBit v = true := by
  unfold vOf
  rw [List.mem_filter, List.mem_range]
theorem hash8 : (List.range 8).all (fun v => decide (hashInt (v : Int) = (v : Int))) = true := by decide +kernel
theorem hash_small {v : Nat} (h : v < 8) : hashInt (v : Int) = (v : Int) := of_decide_eq_true (List.all_eq_true.mp hash8 v (List.mem_range.mpr h))
theorem es_elems {prog : Program} {w : World} {es : Array (Int × Value)} {m : Nat} (h : EsOf es (vOf m)) : ElemsOf (intKind prog w) es.toList := by
  intro e he
  obtain ⟨v, hv, t, rfl⟩ := h.at he
  exact ⟨⟨(v : Int), intKind_is _ _ _ _, (hash_small (mem_vOf.mp hv).1).symm⟩, rfl⟩
theorem es_find {prog : Program} {w : World} {es : Array (Int × Value)} {m v : Nat} (h : EsOf es (vOf m)) (hv : v < 8) :
    (es.toList.findIdx? fun e => (intKind prog w).is (v : Int) e.2).isSome = m.testBit v := by
  cases hb : m.testBit v with
  | true =>
    obtain ⟨t, ht⟩ := h.of_mem (mem_vOf.mpr ⟨hv, hb⟩)
    rw [List.findIdx?_isSome]
    exact List.any_eq_true.mpr ⟨_, ht, intKind_is _ _ _ _⟩
  | false =>
    cases hf : es.toList.findIdx? fun e => (intKind prog w).is (v : Int) e.2 with
    | none => rfl
    | some j =>
      obtain ⟨hj, hpj, _⟩ := List.findIdx?_eq_some_iff_getElem.mp hf
      obtain ⟨u, hu, t, e⟩ := h.at (List.getElem_mem hj)
      rw [e] at hpj
      have := (intKind prog w).inj _ _ _ hpj (intKind_is prog w (u : Int) t)
      have e2 : v = u := by omega
      subst e2
      have := (mem_vOf.mp hu).2
      rw [hb] at this; cases this
end Mine
-- part SetB
namespace Mine
/-- the set at a, and its table -/
def SetT (h : Heap) (a : Addr) (m : Nat) (led : Bool) : Prop := ∃ es ep, h.get? a = some { cls := .type "set", dict := none, data := .set es ep (tabV (vOf m) led), slots := #[] } ∧ EsOf es (vOf m)
section
variable {prog : Program} {w : World} {A : Around} {E : Value → Shared → Prop} {s : Shared} {a : Addr} {m v : Nat} {led : Bool} {t : Tok}
theorem withV_idem {m v : Nat} (h : m.testBit v = true) : withV m v = m := by
  unfold withV
  apply Nat.eq_of_testBit_eq
  intro i
  rw [Nat.testBit_or, Nat.one_shiftLeft, Nat.testBit_two_pow]
  by_cases e : v = i
  · subst e; simp [h]
  · simp [e]
theorem addSet_T {Q : Bool → Shared → Prop} (hS : SetT s.heap a m led) (hm : m ∈ fewM) (hv : v < 8) (hl : (vOf (withV m v)).length ≤ 4)
    (h : ∀ h' b, Heap.SameBut a s.heap h' → SetT h' a (withV m v) led → Q b { s with heap := h' }) :
    wpAny (model prog w) A (setAddHashed a (.int (v : Int) t) (hashInt (v : Int))) Q E s := by
  obtain ⟨es, ep, ho, hes⟩ := hS
  have hel : ElemsOf (intKind prog w) es.toList := es_elems hes
  have hsz := hes.size
  have hf : (tabV (vOf m) led).fits es.size = true := by rw [hsz]; exact fit_ok led hm
  have h4 : (vOf m).length ≤ 4 := few_len hm
  have hkey := intKind_is prog w (v : Int) t
  have hsc : (Value.int (v : Int) t).scannable = true := rfl
  unfold setAddHashed setAddHashedIn
  refine wpAny_holding (wpAny_bind (wpAny_setState_of ho rfl hf ?_))
  dsimp only
  rw [byScan_of hsc (by unfold scanBound; omega) hel]
  simp only [↓reduceIte]
  unfold setAddByScan
  refine wpAny_bind (wpAny_bind (wpAny_rule (wpAny_bind (wpAny_setScan_of (knd := intKind prog w) hkey ho rfl hf hel ?_))))
  have hfind := es_find (prog := prog) (w := w) hes hv
  cases hr : es.toList.findIdx? (fun e => (intKind prog w).is (v : Int) e.2) with
  | some j =>
    rw [hr] at hfind
    dsimp only
    refine wpAny_pure (wpAny_pure ?_)
    have hb : m.testBit v = true := hfind.symm
    have := h s.heap false (Heap.SameBut.refl a s.heap) ⟨es, ep, by rw [withV_idem hb]; exact ho, by rw [withV_idem hb]; exact hes⟩
    exact this
  | none =>
    rw [hr] at hfind
    have hb : m.testBit v = false := hfind.symm
    obtain ⟨d1, d2, d3, d4, d5, d6⟩ := step_ok led hm hv hb hl
    have hput := hes.put t d6
    have hsz' := hput.size
    have hlay : layNew (tabV (vOf m) led) es (hashInt (v : Int)) (.int (v : Int) t) = (SetTable.insertAt es (SetTable.below (vOf m).toArray v) ((v : Int), .int (v : Int) t), tabV (vOf (withV m v)) led, false, false) := by
      unfold layNew
      rw [hash_small hv, d1]
      dsimp only
      rw [d2]
      dsimp only
      unfold SetTable.orStandIn
      rw [hsz', d3]
      rfl
    dsimp only
    rw [hlay]
    dsimp only
    refine wpAny_bind (wpAny_pure ?_)
    have hpl : (tabV (vOf (withV m v)) led).plain = true := rfl
    rw [hpl]
    simp only [↓reduceIte]
    rw [hashByValue_scannable 8 hsc]
    refine wpAny_bind (wpAny_pure ?_)
    rw [show plainKind (Value.int (v : Int) t) = true from rfl]
    simp only [↓reduceIte]
    refine wpAny_bind (wpAny_storeSet_of ho rfl ?_ (by rw [hsz', sizeLine_eq]; omega))
    rw [d5]
    simp only [Bool.not_false, Bool.true_and, Bool.false_eq_true, ↓reduceIte]
    refine wpAny_pure (wpAny_pure ?_)
    refine h _ true (Heap.SameBut.update ..) ⟨_, ep + 1, ?_, hput⟩
    have := Heap.get?_update_self (Obj.putSet (SetTable.insertAt es (SetTable.below (vOf m).toArray v) ((v : Int), .int (v : Int) t)) (tabV (vOf (withV m v)) led)) ho (by rfl)
    exact this
end
end Mine
-- part SetC
namespace Mine
theorem mOf_take {ns : List Nat} {i : Nat} (h : i < ns.length) : mOf (ns.take (i + 1)) = withV (mOf (ns.take i)) (ns.getD i 0) := by
  unfold mOf
  rw [List.take_succ_eq_append_getElem h, List.foldl_append]
  simp [List.getD_eq_getElem?_getD, h]
section
variable {prog : Program} {w : World} {A : Around} {R : Result → Shared → Prop} {I : Addr} {fp wr : List Addr} {G : Array GenState → Array GenState → Prop} {n : Nat} {P : Nat → Value → Prop} {St : Nat → Shared → Prop}
theorem SetT.at {h h' : Heap} {a : Addr} {m : Nat} {led : Bool} (x : SetT h a m led) (hk : ∀ o, h.get? a = some o → h'.get? a = some o) : SetT h' a m led := let ⟨es, ep, ho, r⟩ := x; ⟨es, ep, hk _ ho, r⟩
/-- the loop that fills the set -/
theorem loop_T (W : WalksS prog w A.in1 I fp wr G n P St) (S : Addr) (hSf : S ∉ fp) (led : Bool) (ns : List Nat) (hn : ns.length = n)
    (hval : ∀ i v, P i v → ∃ t, v = .int ((ns.getD i 0 : Nat) : Int) t) (h8 : ∀ x ∈ ns, x < 8) (hfew : ∀ i ≤ n, mOf (ns.take i) ∈ fewM) :
    ∀ (k i : Nat) (s : Shared), n - i = k → i ≤ n → St i s → SetT s.heap S (mOf (ns.take i)) led →
      (∀ s', Moved (S :: wr) G s s' → SetT s'.heap S (mOf ns) led → R (.ok (.ret .none)) s') →
      codeAny (model prog w) A (.builtin "set.update.loop" ⟨[.ref S, .ref I], []⟩) R s := by
  have hSw : S ∉ wr := fun h => hSf (W.sub _ h)
  have hsub : ∀ b ∈ wr, b ∈ S :: wr := fun b hb => List.mem_cons_of_mem _ hb
  intro k
  induction k with
  | zero =>
    intro i s hk hi hst hS hR
    have hin : i = n := by omega
    subst hin
    refine codeAny_builtin PyProof.Rows.F.entry_set_update_loop ?_
    rw [Around.under_plainId PyProof.Rows.F.plain_set_update_loop _]
    show wpAny _ A.in1 (pyNext (.ref I) >>= _) _ _ s
    refine wpAny_bind (W.done s _ _ hst fun s' hm => ?_)
    show wpAny _ A.in1 (ret Value.none) _ _ s'
    refine wpAny_pure (hR s' (hm.mono hsub) ?_)
    rw [List.take_of_length_le (Nat.le_of_eq hn)] at hS
    exact hS.at fun o e => hm.heap S o hSw e
  | succ k ih =>
    intro i s hk hi hst hS hR
    have hlt : i < n := by omega
    have hltn : i < ns.length := by omega
    have hg : ns.getD i 0 ∈ ns := by rw [List.getD_eq_getElem?_getD, List.getElem?_eq_getElem hltn]; exact List.getElem_mem hltn
    refine codeAny_builtin PyProof.Rows.F.entry_set_update_loop ?_
    rw [Around.under_plainId PyProof.Rows.F.plain_set_update_loop _]
    show wpAny _ A.in1 (pyNext (.ref I) >>= _) _ _ s
    refine wpAny_bind (W.item i s _ _ hlt hst fun v s' hP hst' hm => ?_)
    obtain ⟨t, rfl⟩ := hval i v hP
    have hS' : SetT s'.heap S (mOf (ns.take i)) led := hS.at fun o e => hm.heap S o hSw e
    show wpAny _ A.in1 (holding [Value.int _ t] (setAdd S (.int _ t)) >>= _) _ _ s'
    refine wpAny_bind (wpAny_holding ?_)
    unfold setAdd
    refine wpAny_holding ?_
    refine wpAny_bind ((intKind prog w).pyHash (k := ((ns.getD i 0 : Nat) : Int)) (intKind_is _ _ _ _) ?_)
    refine addSet_T (s := { s' with toks := s'.toks + 1 }) hS' (hfew i hi) (h8 _ hg) (by rw [← mOf_take hltn]; exact few_len (hfew (i + 1) hlt)) fun h' b hsb hS2 => ?_
    rw [← mOf_take hltn] at hS2
    refine wpAny_pure ⟨plainId_quiet PyProof.Rows.F.plain_set_update_loop _, ih (i + 1) _ (by omega) hlt (W.frame _ s' _ _ hst' (Nat.le_succ _) fun b hb o e => ?_) hS2 fun s'' hm'' hS'' => ?_⟩
    · rw [hsb.2 b (fun h : b = S => hSf (by rw [← h]; exact hb))]; exact e
    · refine hR s'' (Moved.trans W.gtrans ((hm.mono hsub).then_heap (Nat.le_succ _) fun b o hb e => ?_) hm'') hS''
      rw [hsb.2 b (fun h : b = S => hb (by rw [h]; exact List.mem_cons_self))]; exact e
end
section
variable {prog : Program} {w : World} {A : Around} {E : Value → Shared → Prop} {s : Shared}
def byText (w : World) : Bool := w.params.followText "set-order"
abbrev freshSet (w : World) : Obj := { cls := .type "set", dict := none, data := .set #[] 0 (.fresh 0 0 (!byText w)) }
theorem new_T (a : Value) {Q₁ : Value → Shared → Prop} (h : Q₁ (.ref s.heap.objs.size) { s with heap := s.heap.push (freshSet w) }) :
    codeAny (model prog w) A (.call (.builtin "set.__new__") ⟨[.type "set", a], []⟩) (wants Q₁ E) s := by
  refine codeAny_of_tree ?_
  show wpAny _ A.in1 (do checkBuiltinCall "set.__new__" ⟨[.type "set", a], []⟩; again (.builtin "set.__new__" ⟨[.type "set", a], []⟩)) _ _ s
  refine wpAny_bind (wpAny_of_eq (PySem.F.newCall_set_1 a) (wpAny_pure ⟨plainId_quiet PySem.F.plain_set_new _, codeAny_builtin PySem.F.entry_set_new ?_⟩))
  rw [Around.under_plainId PySem.F.plain_set_new _]
  unfold Builtin.«set.__new__» Builtin.Frozenset.newClass
  have hsub := sub_set_self
  obtain ⟨hp, g, d, tk, os⟩ := s
  dsimp only
  wp_walk
  refine wpAny_askSetting (wpAny_pure ?_)
  dsimp only
  simp only [newObj]
  refine wpAny_bind (wpAny_alloc (wpAny_pure ?_))
  exact wpAny_pure h
end
end Mine
-- part SetD
namespace Mine
theorem ints_at {vs : List Value} {ns : List Nat} (hi : IntsAre vs (ns.map fun (n : Nat) => (n : Int))) {i : Nat} {v : Value} (h : vs[i]? = some v) : ∃ t, v = .int ((ns.getD i 0 : Nat) : Int) t := by
  obtain ⟨t, e⟩ := IntsAre.int_at hi i v h
  refine ⟨t, ?_⟩
  rw [e]
  congr 1
  simp only [List.getD_eq_getElem?_getD, List.getElem?_map]
  cases ns[i]? <;> rfl
section
variable {prog : Program} {w : World} {A : Around} {E : Value → Shared → Prop} {s : Shared}
theorem call_T {l : Addr} {vs : List Value} {ns : List Nat} {Q : Value → Shared → Prop} (hh : A.handled = none) (hl : s.heap.IsList l vs.toArray) (hi : IntsAre vs (ns.map fun (n : Nat) => (n : Int)))
    (h8 : ∀ x ∈ ns, x < 8) (hfew : ∀ i ≤ ns.length, mOf (ns.take i) ∈ fewM)
    (h : ∀ (h' : Heap) (tk : Nat), SetT h' s.heap.objs.size (mOf ns) (!byText w) → (∀ b o, s.heap.get? b = some o → h'.get? b = some o) → Q (.ref s.heap.objs.size) { s with heap := h', toks := tk }) :
    wpAny (model prog w) A (call (.type "set") [.ref l]) Q E s := by
  obtain ⟨c, tl, hmro⟩ := PySem.F.called_set.mro
  have hmade := PySem.F.called_set.made
  have hsub := PySem.F.called_set.sub
  refine wpAny_call (codeAny_of_tree ?_)
  show wpAny _ _ (callAny (.type "set") _) _ _ _
  refine wpAny_pure ⟨Code.quiet_builtin _ (by decide +kernel), codeAny_builtin F.entry_type_call ?_⟩
  rw [Around.under_plain (weight_type_call_type "set" [.ref l] []) rfl]
  have h1 := PySem.F.called_set.notType
  have h2 := PySem.F.called_set.canCreate
  have hct := PySem.F.typeCall_set_1 (.ref l)
  repeat (any_goals (first | assumption | wp_step))
  refine codeAny_mono (new_T (.ref l) (E := E) (Q₁ := fun obj s₁ => obj = .ref s.heap.objs.size ∧ s₁ = { s with heap := s.heap.push (freshSet w) }) ⟨rfl, rfl⟩) fun r s₁ hr => ?_
  cases r with
  | error e => exact hr
  | ok fl =>
    cases fl with
    | ret obj =>
      obtain ⟨rfl, rfl⟩ := hr
      have hS : (s.heap.push (freshSet w)).get? s.heap.objs.size = some (freshSet w) := Heap.get?_push_size _ rfl
      have hT : Shared.TypeIs { s with heap := s.heap.push (freshSet w) } (.ref s.heap.objs.size) "set" := ⟨_, hS, rfl⟩
      have hli := PySem.F.called_set.init.lookup
      have hbi := PySem.F.called_set.init.bind (.ref s.heap.objs.size)
      repeat (any_goals (first | assumption | wp_step))
      refine codeAny_mono (codeAny_call_builtin (R := wants (fun r s₂ => r = .none ∧ ∃ h' tk, s₂ = { s with heap := h', toks := tk } ∧ SetT h' s.heap.objs.size (mOf ns) (!byText w) ∧
          (∀ b o, s.heap.get? b = some o → h'.get? b = some o)) E) PySem.F.called_set.init.plain PySem.F.entry_set_init (check_set_init_1 hT ?_)) fun r₂ s₂ hr₂ => ?_
      · obtain ⟨ol, hol, hcl, nl, hdl⟩ := hl
        obtain ⟨ocls, odict, odata, oslots⟩ := ol
        simp only at hcl hdl
        subst hcl; subst hdl
        have hol' : (s.heap.push (freshSet w)).get? l = some { cls := .type "list", dict := odict, data := .seq vs.toArray nl, slots := oslots } := Heap.get?_push_of_some _ hol
        have hsls := PySem.F.sub_list_set
        have hslf := PySem.F.sub_list_frozenset
        have hne : (Value.type "list" == Value.type "dict") = false := by decide
        have hl1 : (s.heap.push (freshSet w)).IsList l vs.toArray := ⟨_, hol', rfl, nl, rfl⟩
        unfold Builtin.«set.__init__» noKeywords Builtin.Frozenset.updateFrom
        generalize hPI : pyIter = PI
        wp_walk
        subst hPI
        refine wpAny_pyIter_list hl1 ?_
        refine wpAny_bind (wpAny_runValue ?_)
        have hlS : l < s.heap.objs.size := Heap.lt_size hol
        have hh3 : A.in1.in1.in1.handled = none := by simp [hh]
        have hpz : (s.heap.push (freshSet w)).objs.size = s.heap.objs.size + 1 := Heap.size_push _ _
        have hneI : l ≠ (s.heap.push (freshSet w)).objs.size := by rw [hpz]; exact Nat.ne_of_lt (Nat.lt_succ_of_lt hlS)
        have hSf : s.heap.objs.size ∉ [(s.heap.push (freshSet w)).objs.size, l] := by
          rw [hpz]; simp only [List.mem_cons, List.not_mem_nil, or_false, not_or]
          exact ⟨Nat.ne_of_lt (Nat.lt_succ_self _), Nat.ne_of_gt hlS⟩
        have hsz : vs.toArray.size = vs.length := List.size_toArray
        have hln : vs.length = ns.length := by rw [hi.length, List.length_map]
        refine loop_T ((Walks.list hh3 _ l hneI vs.toArray).toS) s.heap.objs.size hSf (!byText w) ns (by rw [hsz, hln]) (fun i v hv => ints_at hi (by simpa using hv)) h8 (by rw [hsz, hln]; exact hfew) _ 0 _ rfl (Nat.zero_le _)
          ⟨⟨_, Heap.get?_push_size _ rfl, rfl, rfl⟩, (hl1.push _)⟩ ?hS0 ?hR
        case hS0 =>
          have e0 : vOf (mOf (ns.take 0)) = [] := by rw [List.take_zero]; decide
          refine ⟨#[], 0, ?_, ?_⟩
          · rw [e0]; exact Heap.get?_push_of_some _ hS
          · rw [e0]; exact ⟨rfl, fun e he => by simp at he⟩
        case hR =>
          intro s' hm hS'
          obtain ⟨h', g', d', tk', os'⟩ := s'
          have eg : g' = s.gens := hm.gens
          have ed : d' = s.drawn := hm.drawn
          have eo : os' = s.os := hm.os
          subst eg; subst ed; subst eo
          refine wpAny_pure ?_
          show wpAny _ _ (ret Value.none) _ _ _
          refine wpAny_pure ⟨rfl, h', tk', rfl, hS', fun b o e => ?_⟩
          have hb : b < s.heap.objs.size := Heap.lt_size e
          refine hm.heap b o (fun hmem => ?_) (Heap.get?_push_of_some _ (Heap.get?_push_of_some _ e))
          rw [hpz] at hmem
          simp only [List.mem_cons, List.not_mem_nil, or_false] at hmem
          rcases hmem with rfl | rfl
          · exact absurd hb (Nat.lt_irrefl _)
          · exact absurd hb (Nat.not_lt.mpr (Nat.le_succ _))
      · cases r₂ with
        | error e => exact hr₂
        | ok fl₂ =>
          cases fl₂ with
          | ret r =>
            obtain ⟨rfl, h', tk, rfl, hS', hk'⟩ := hr₂
            repeat (any_goals (first | assumption | wp_step))
            exact h _ _ hS' hk'
          | _ => exact hr₂.elim
    | _ => exact hr.elim
variable {h₀ : Heap} {L : Addr} {m : Str → Option Value} {news : List (Addr × Obj)}
abbrev setObj (es : Array (Int × Value)) (ep : Nat) (m : Nat) (led : Bool) : Obj := { cls := .type "set", dict := none, data := .set es ep (tabV (vOf m) led), slots := #[] }
/-- set of a list of small ints -/
theorem set_N {l : Addr} {vs : List Value} {n : Nat} {ns : List Nat} {Q : Value → Shared → Prop} (F : Fr h₀ L s.heap m) (N : News h₀ L s.heap news) (hh : A.handled = none) (hl : (l, W.listOf vs.toArray n) ∈ news)
    (hi : IntsAre vs (ns.map fun (n : Nat) => (n : Int))) (h8 : ∀ x ∈ ns, x < 8) (hfew : ∀ i ≤ ns.length, mOf (ns.take i) ∈ fewM)
    (h : ∀ D h' (tk : Nat) es ep, Fr h₀ L h' m → News h₀ L h' ((D, setObj es ep (mOf ns) (!byText w)) :: news) → (∀ p ∈ news, p.1 < D) → EsOf es (vOf (mOf ns)) → Q (.ref D) { s with heap := h', toks := tk }) :
    wpAny (model prog w) A (call (.type "set") [.ref l]) Q E s := by
  refine call_T hh (News.isList N hl) hi h8 hfew fun h' tk hS hk => ?_
  obtain ⟨es, ep, ho, hes⟩ := hS
  exact h _ h' tk es ep (F.keeps hk) (news_pushed F N hk ho rfl) (fun q hq => Heap.lt_size (N q hq).1) hes
end
end Mine
-- part SetE
namespace Mine
theorem si_owner : Manifest.owners.lookup (String.ofList ['r', 'o', 't', 'a', 'r', 'e', 't', 'i', '_', 't', 'e', 's'].reverse) = some Manifest.sig_set_iterator := by kernel_rfl
theorem si_next : Slot "set_iterator" "__next__" "set_iterator.__next__" :=
  .of (owner := "set_iterator") (n := "__next__") (by rw [typeLookup_type, builtinLookup_eq_fast]; kernel_rfl) (by decide +kernel) (by decide +kernel) (by decide +kernel)
    (by first | exact .inl (by decide +kernel) | exact .inr (by decide +kernel)) (by rw [isSubtype_type]; kernel_rfl)
theorem si_entry : entryFor table "set_iterator.__next__" = some Builtin.«set_iterator.__next__» := entryFor_of_tree (by kernel_rfl)
theorem si_args (a : Value) : argsOk "set_iterator.__next__" ⟨[a], []⟩ := by
  unfold argsOk; rw [signature?_of (id := "set_iterator.__next__") (n := ['_', '_', 't', 'x', 'e', 'n', '_', '_']) (o := ['r', 'o', 't', 'a', 'r', 'e', 't', 'i', '_', 't', 'e', 's']) (by kernel_rfl) si_owner]; kernel_rfl
theorem si_iter : Slot "set_iterator" "__iter__" "set_iterator.__iter__" :=
  .of (owner := "set_iterator") (n := "__iter__") (by rw [typeLookup_type, builtinLookup_eq_fast]; kernel_rfl) (by decide +kernel) (by decide +kernel) (by decide +kernel)
    (by first | exact .inl (by decide +kernel) | exact .inr (by decide +kernel)) (by rw [isSubtype_type]; kernel_rfl)
theorem si_entry_iter : entryFor table "set_iterator.__iter__" = some Builtin.«dict_keyiterator.__iter__» :=
  entryFor_alias (id' := "dict_keyiterator.__iter__") (by kernel_rfl) rfl (by decide +kernel) (by kernel_rfl)
theorem si_args_iter (a : Value) : argsOk "set_iterator.__iter__" ⟨[a], []⟩ := by
  unfold argsOk; rw [signature?_of (id := "set_iterator.__iter__") (n := ['_', '_', 'r', 'e', 't', 'i', '_', '_']) (o := ['r', 'o', 't', 'a', 'r', 'e', 't', 'i', '_', 't', 'e', 's']) (by kernel_rfl) si_owner]; kernel_rfl
theorem set_entry_iter : entryFor table "set.__iter__" = some Builtin.«frozenset.__iter__» :=
  entryFor_alias (id' := "frozenset.__iter__") (by kernel_rfl) rfl (by decide +kernel) (by kernel_rfl)
/-- the walk's order -/
def ordOf (w : World) (a : Addr) (ep : Nat) (es : Array (Int × Value)) : Array (Int × Value) := if byText w = true then pickOrder (w.params.setOrder a ep) es else es
theorem erase_perm {α : Type} : ∀ (l : List α) (n : Nat) (h : n < l.length), (l[n] :: l.eraseIdx n).Perm l
  | _ :: _, 0, _ => List.Perm.refl _
  | a :: l, n + 1, h => by
    simp only [List.getElem_cons_succ, List.eraseIdx_cons_succ]
    exact (List.Perm.swap a _ _).trans (List.Perm.cons a (erase_perm l n (by simpa using h)))
theorem pick_go {α : Type} (next : Nat → Nat) : ∀ (n k : Nat) (left : List α) (out : Array α), left.length = n → (pickOrder.go next n k left out).toList.Perm (out.toList ++ left)
  | 0, k, left, out, h => by
    have : left = [] := List.length_eq_zero_iff.mp h
    subst this
    unfold pickOrder.go
    simp
  | n + 1, k, left, out, h => by
    have hlt : next k % left.length < left.length := Nat.mod_lt _ (by omega)
    unfold pickOrder.go
    rw [List.getElem?_eq_getElem hlt]
    dsimp only
    refine (pick_go next n (k + 1) _ _ (by rw [List.length_eraseIdx_of_lt hlt]; omega)).trans ?_
    rw [Array.toList_push, List.append_assoc]
    refine List.Perm.append_left _ ?_
    exact erase_perm left _ hlt
theorem ord_perm (w : World) (a : Addr) (ep : Nat) (es : Array (Int × Value)) : (ordOf w a ep es).toList.Perm es.toList := by
  unfold ordOf
  split
  · have := pick_go (w.params.setOrder a ep) es.size 0 es.toList #[] (by simp)
    simpa [pickOrder] using this
  · exact List.Perm.refl _
def iterSlot (w : World) (V : List Nat) (i : Nat) : Nat := if byText w = true then 0 else slotAt V i
abbrev siObj (w : World) (V : List Nat) (a : Addr) (n ep i : Nat) : Obj := { cls := .type "set_iterator", data := .fields #[.int (iterSlot w V i : Nat) 0, .int (i : Nat) 0, .ref a, .int (n : Nat) 0, .int (ep : Nat) 0] }
structure SIt (h : Heap) (w : World) (I a : Addr) (m : Nat) (es : Array (Int × Value)) (ep i : Nat) : Prop where
  it : h.get? I = some (siObj w (vOf m) a es.size ep i)
  st : h.get? a = some (setObj es ep m (!byText w))
section
variable {prog : Program} {w : World} {A : Around} {E : Value → Shared → Prop} {s : Shared} {a I : Addr} {m ep i : Nat} {es : Array (Int × Value)}
theorem pyIter_T {Q : Value → Shared → Prop} (hS : s.heap.get? a = some (setObj es ep m (!byText w))) (hes : EsOf es (vOf m)) (hm : m ∈ fewM)
    (hQ : Q (.ref s.heap.objs.size) { s with heap := s.heap.push (siObj w (vOf m) a es.size ep 0) }) : wpAny (model prog w) A (pyIter (.ref a)) Q E s := by
  have hT : s.TypeIs (.ref a) "set" := ⟨_, hS, rfl⟩
  have hf : (tabV (vOf m) (!byText w)).fits es.size = true := by rw [hes.size]; exact fit_ok _ hm
  refine wpAny_pyIter_slot hT PySem.F.slot_set_iter (wpAny_call_entry PySem.F.slot_set_iter hT set_entry_iter ?_ (PySem.F.args_set_iter_1 _))
  unfold Builtin.«frozenset.__iter__» Builtin.Frozenset.slot0 slotArgs
  simp only [List.isEmpty_nil, Bool.not_true, Bool.false_eq_true, ↓reduceIte, bind_assoc, List.length_nil, bne_self_eq_false]
  unfold Builtin.Frozenset.addrOf Builtin.Frozenset.sizeOf
  refine wpAny_bind (wpAny_pure ?_)
  try dsimp only
  refine wpAny_bind (wpAny_pure ?_)
  refine wpAny_bind (wpAny_bind (wpAny_setEntries_of hS rfl hf (wpAny_pure ?_)))
  unfold setDrawn setsByText
  refine wpAny_bind (wpAny_bind (wpAny_setState_of hS rfl hf ?_))
  refine wpAny_bind (wpAny_bind (wpAny_askSetting (wpAny_pure (wpAny_pure ?_))))
  refine wpAny_ite_split (fun hab => ?_) (fun _ => ?_)
  · exfalso
    rw [Bool.and_eq_true] at hab
    exact Bool.noConfusion (show false = true from hab.2)
  refine wpAny_bind (wpAny_pure ?_)
  refine wpAny_bind (wpAny_setEpoch_of hS rfl hf ?_)
  refine wpAny_bind (wpAny_newObj_type (wpAny_pure ⟨_, rfl, "set_iterator", _, ⟨_, Heap.get?_push_size _ rfl, rfl⟩, si_next.lookup, ?_⟩))
  have e0 : iterSlot w (vOf m) 0 = 0 := by unfold iterSlot slotAt; split <;> rfl
  simpa [rawInt, siObj, e0] using hQ
theorem ord_size : (ordOf w a ep es).size = es.size := by rw [← Array.length_toList, (ord_perm w a ep es).length_eq, Array.length_toList]
theorem SIt.typeIs (x : SIt s.heap w I a m es ep i) : s.TypeIs (.ref I) "set_iterator" := ⟨_, x.it, rfl⟩
theorem SIt.step (x : SIt s.heap w I a m es ep i) (hne : a ≠ I) {j : Nat} (hj : j = iterSlot w (vOf m) (i + 1)) :
    SIt ((s.heap.update I (Obj.mapFields (·.setIfInBounds 0 (rawInt (j : Int))))).update I (Obj.mapFields (·.setIfInBounds 1 (rawInt ((i : Int) + 1))))) w I a m es ep (i + 1) := by
  have h1 := Heap.get?_update_self (Obj.mapFields (·.setIfInBounds 0 (rawInt (j : Int)))) x.it (by rfl)
  have h2 := Heap.get?_update_self (Obj.mapFields (·.setIfInBounds 1 (rawInt ((i : Int) + 1)))) h1 (by rfl)
  refine ⟨?_, ?_⟩
  · rw [h2, hj]; rfl
  · exact (Heap.get?_update_other _ _ (Ne.symm hne)).trans ((Heap.get?_update_other _ _ (Ne.symm hne)).trans x.st)
theorem setNext_T {Q : Option (Value × Nat) → Shared → Prop} (hS : s.heap.get? a = some (setObj es ep m (!byText w))) (hes : EsOf es (vOf m)) (hm : m ∈ fewM) (hi : i ≤ es.size)
    (hQ : Q ((ordOf w a ep es)[i]?.map fun e => (e.2, iterSlot w (vOf m) (i + 1))) s) : wpAny (model prog w) A (setNext a (iterSlot w (vOf m) i) i ep) Q E s := by
  have hf : (tabV (vOf m) (!byText w)).fits es.size = true := by rw [hes.size]; exact fit_ok _ hm
  have hsz := hes.size
  unfold setNext setsByText
  refine wpAny_bind (wpAny_setState_of hS rfl hf ?_)
  dsimp only
  refine wpAny_bind (wpAny_bind (wpAny_askSetting (wpAny_pure ?_)))
  cases hb : byText w with
  | true =>
    have hb' : (model prog w).w.params.followText "set-order" = true := hb
    rw [hb']
    simp only [↓reduceIte]
    refine wpAny_ite_split (fun hab => absurd hab (by simp)) (fun _ => ?_)
    refine wpAny_bind ?_
    unfold setWalk setsByText
    refine wpAny_bind (wpAny_setState_of hS rfl hf ?_)
    dsimp only
    refine wpAny_bind (wpAny_bind (wpAny_askSetting (wpAny_pure ?_)))
    rw [hb']
    simp only [↓reduceIte]
    refine wpAny_bind (wpAny_askSetting (wpAny_pure (wpAny_pure ?_)))
    unfold ordOf iterSlot at hQ
    rw [hb] at hQ
    simp only [↓reduceIte] at hQ
    unfold iterSlot
    rw [hb]
    simp only [↓reduceIte]
    exact hQ
  | false =>
    have hb' : (model prog w).w.params.followText "set-order" = false := hb
    rw [hb']
    simp only [Bool.false_eq_true, ↓reduceIte]
    refine wpAny_ite_split (fun hab => Bool.noConfusion (show false = true from hab)) (fun _ => ?_)
    refine wpAny_bind (wpAny_ite_split (fun hab => Bool.noConfusion (show false = true from hab)) (fun _ => wpAny_pure ?_))
    unfold ordOf iterSlot at hQ
    rw [hb] at hQ
    simp only [Bool.false_eq_true, ↓reduceIte] at hQ
    unfold iterSlot
    rw [hb]
    simp only [Bool.false_eq_true, ↓reduceIte]
    refine wpAny_pure ?_
    have hw : SetTable.below (tabV (vOf m) (!false)).place (slotAt (vOf m) i) = i := walk_ok hm (by rw [← hsz]; exact hi)
    rw [hw]
    have hp : (tabV (vOf m) (!false)).place[i]? = (vOf m)[i]? := by simp [tabV]
    rw [hp]
    rcases Nat.lt_or_ge i es.size with hlt | hge
    · have hv : i < (vOf m).length := by rw [← hsz]; exact hlt
      rw [Array.getElem?_eq_getElem hlt, List.getElem?_eq_getElem hv]
      rw [Array.getElem?_eq_getElem hlt] at hQ
      have e1 : slotAt (vOf m) (i + 1) = (vOf m)[i] + 1 := by simp [slotAt, List.getD_eq_getElem?_getD, hv]
      rw [e1] at hQ
      exact hQ
    · rw [Array.getElem?_eq_none hge]
      rw [Array.getElem?_eq_none hge] at hQ
      exact hQ
theorem next_T {Q : Option Value → Shared → Prop} (x : SIt s.heap w I a m es ep i) (hes : EsOf es (vOf m)) (hm : m ∈ fewM) (hne : a ≠ I) (hi : i < es.size)
    (hQ : ∀ h' v, (∃ e, (ordOf w a ep es)[i]? = some e ∧ e.2 = v) → SIt h' w I a m es ep (i + 1) → (∀ b o, b ≠ I → s.heap.get? b = some o → h'.get? b = some o) → Q (some v) { s with heap := h' }) : wpAny (model prog w) A (pyNext (.ref I)) Q E s := by
  have hf : (tabV (vOf m) (!byText w)).fits es.size = true := by rw [hes.size]; exact fit_ok _ hm
  have hv : i < (vOf m).length := by rw [← hes.size]; exact hi
  unfold pyNext
  refine wpAny_bind (wpAny_attempt (wpAny_callSpecial?_slot (name := Str.ofString "__next__") x.typeIs si_next (wpAny_call_entry si_next x.typeIs si_entry ?_ (si_args _))))
  refine wpAny_bind (wpAny_pure ?_)
  refine wpAny_bind (wpAny_fieldsOf x.it rfl ?_)
  dsimp only
  refine wpAny_bind (wpAny_setEntries_of x.st rfl hf ?_)
  refine wpAny_ite_split (fun hab => absurd hab (by simp)) (fun _ => ?_)
  have hi' : i < (ordOf w a ep es).size := by rw [ord_size]; exact hi
  have hg : (ordOf w a ep es)[i]? = some (ordOf w a ep es)[i] := Array.getElem?_eq_getElem hi'
  refine wpAny_bind ?_
  rw [Int.toNat_natCast, Int.toNat_natCast, Int.toNat_natCast]
  refine setNext_T x.st hes hm (Nat.le_of_lt hi) ?_
  rw [hg]
  dsimp only [Option.map_some]
  refine wpAny_bind (wpAny_setField x.it rfl (by simp) ?_)
  have h1 := Heap.get?_update_self (Obj.mapFields (·.setIfInBounds 0 (rawInt ((iterSlot w (vOf m) (i + 1) : Nat) : Int)))) x.it (by rfl)
  refine wpAny_bind (wpAny_setField h1 rfl (by simp) ?_)
  refine wpAny_pure ⟨_, rfl, wpAny_pure ?_⟩
  show Q (some (ordOf w a ep es)[i].2) { s with heap := (s.heap.update I (Obj.mapFields (·.setIfInBounds 0 (rawInt ((iterSlot w (vOf m) (i + 1) : Nat) : Int))))).update I (Obj.mapFields (·.setIfInBounds 1 (rawInt ((i : Int) + 1)))) }
  refine hQ _ _ ⟨_, hg, rfl⟩ (x.step hne rfl) fun b o hb e => ?_
  exact (Heap.get?_update_other _ _ (Ne.symm hb)).trans ((Heap.get?_update_other _ _ (Ne.symm hb)).trans e)
theorem end_T {Q : Option Value → Shared → Prop} (hh : A.handled = none) (x : SIt s.heap w I a m es ep es.size) (hes : EsOf es (vOf m)) (hm : m ∈ fewM)
    (hQ : ∀ h', Heap.ExtBut I s.heap h' → Q none { s with heap := h' }) : wpAny (model prog w) A (pyNext (.ref I)) Q E s := by
  have hf : (tabV (vOf m) (!byText w)).fits es.size = true := by rw [hes.size]; exact fit_ok _ hm
  unfold pyNext
  refine wpAny_bind (wpAny_attempt (wpAny_callSpecial?_slot (name := Str.ofString "__next__") x.typeIs si_next (wpAny_call_entry si_next x.typeIs si_entry ?_ (si_args _))))
  refine wpAny_bind (wpAny_pure ?_)
  refine wpAny_bind (wpAny_fieldsOf x.it rfl ?_)
  dsimp only
  refine wpAny_bind (wpAny_setEntries_of x.st rfl hf ?_)
  refine wpAny_ite_split (fun hab => absurd hab (by simp)) (fun _ => ?_)
  have hg : (ordOf w a ep es)[es.size]? = none := Array.getElem?_eq_none (by rw [ord_size]; exact Nat.le_refl _)
  refine wpAny_bind ?_
  rw [Int.toNat_natCast, Int.toNat_natCast, Int.toNat_natCast]
  refine setNext_T x.st hes hm (Nat.le_refl _) ?_
  rw [hg]
  dsimp only [Option.map_none]
  refine wpAny_bind (wpAny_setField x.it rfl (by simp) ?_)
  refine wpAny_bind ?_
  simp only [newExc, newTuple]
  refine wpAny_bind (wpAny_newObj_type ?_ (by size_fits))
  refine wpAny_bind (m := firstArgMember _ _) (wpAny_of_eq (a := Value.none) (by first | rfl | (simp only [firstArgMember]; rfl)) ?_)
  refine wpAny_newObj_type ?_ (by size_fits)
  simp only [raiseNew]
  refine wpAny_bind (wpAny_handled ?_)
  rw [show A.in1.handled = none from hh]
  refine wpAny_bind (wpAny_pure (wpAny_throw ?_))
  refine wpAny_bind (wpAny_isInstance (T := "StopIteration") (b := true) ⟨_, Heap.get?_push_size _ rfl, rfl⟩ isSubtype_stop ?_)
  exact wpAny_pure (hQ _ (((Heap.SameBut.update ..).extBut.push _).push _))
theorem self_T {Q : Value → Shared → Prop} (x : SIt s.heap w I a m es ep i) (h : Q (.ref I) s) : wpAny (model prog w) A (pyIter (.ref I)) Q E s := by
  refine wpAny_pyIter_slot x.typeIs si_iter (wpAny_call_entry si_iter x.typeIs si_entry_iter ?_ (si_args_iter _))
  show wpAny _ _ (ret (.ref I)) _ _ s
  exact wpAny_pure ⟨_, rfl, "set_iterator", _, x.typeIs, si_next.lookup, h⟩
end
section
variable {prog : Program} {w : World} {A : Around} {a I : Addr} {m ep : Nat} {es : Array (Int × Value)}
theorem walks_T (hh : A.handled = none) (hne : a ≠ I) (hes : EsOf es (vOf m)) (hm : m ∈ fewM) :
    Walks prog w A I [I, a] [I] es.size (fun i v => ∃ e, (ordOf w a ep es)[i]? = some e ∧ e.2 = v) (fun i h => SIt h w I a m es ep i) where
  sub := fun b hb => by simp at hb; simp [hb]
  frame := fun _ _ _ st hk => ⟨hk I (by simp) _ st.it, hk a (by simp) _ st.st⟩
  item := fun i s Q E hi st hQ => next_T st hes hm hne hi fun h' v hv x' hk => hQ v h' s.toks hv x' fun b o hb e => hk b o (fun h => hb (by simp [h])) e
  done := fun s Q E st hQ => end_T hh st hes hm fun h' he' => hQ h' s.toks fun b o hb e => he' b o (fun h => hb (by simp [h])) e
  self := fun _ _ _ _ st hQ => self_T st hQ
end
end Mine
-- part SetF
namespace Mine
section
variable {prog : Program} {w : World} {A : Around} {E : Value → Shared → Prop} {s : Shared}
theorem hint_set {r : Addr} {Q : Bool → Shared → Prop} (hT : s.TypeIs (.ref r) "set") (h : Q false s) : wpAny (model prog w) A (Builtin.List.listLengthHint (.ref r)) Q E s := by
  unfold Builtin.List.listLengthHint
  refine wpAny_bind (wpAny_specialOf hT PySem.F.slot_set_len.lookup ?_)
  generalize hid : ("set.__len__" : String) = id0
  wp_delta
  rw [show splitId id0 = some ("set", "__len__") from by subst hid; decide +kernel]
  subst hid
  refine wpAny_bind (wpAny_isInstance (T := "set") (b := true) hT sub_set_self ?_)
  refine wpAny_ite_split (fun hab => absurd hab (by decide)) (fun _ => ?_)
  refine wpAny_ite_split (fun _ => ?_) (fun hab => absurd (by decide +kernel) hab)
  refine wpAny_bind (wpAny_typeOf hT ?_)
  exact wpAny_pure h
end
section
variable {prog : Program} {w : World} {a : Addr} {m ep : Nat} {es : Array (Int × Value)}
theorem src_T (hes : EsOf es (vOf m)) (hm : m ∈ fewM) : KdlSrc prog w "set" a a es.size (fun i v => ∃ e, (ordOf w a ep es)[i]? = some e ∧ e.2 = v) (fun h => h.get? a = some (setObj es ep m (!byText w))) where
  type := fun _ hm => ⟨_, hm, rfl⟩
  there := fun _ hm => ⟨Heap.lt_size hm, Heap.lt_size hm⟩
  keep := fun _ _ hm hk => hk a (.inl rfl) _ hm
  notList := by decide
  notTuple := by decide
  hint := fun _ _ _ _ hm hq => hint_set ⟨_, hm, rfl⟩ hq
  iter := fun _ _ hh ho => ⟨_, _, (fun _ _ hq => pyIter_T ho hes hm hq), walks_T hh (Nat.ne_of_lt (Heap.lt_size ho)) hes hm, ⟨Heap.get?_push_size _ rfl, Heap.get?_push_of_some _ ho⟩⟩
end
theorem ints_of_get : ∀ {vs : List Value} {ns : List Int}, vs.length = ns.length → (∀ (j : Nat) (v : Value), vs[j]? = some v → ∃ t, v = .int (ns.getD j 0) t) → IntsAre vs ns
  | [], [], _, _ => .nil
  | [], _ :: _, h, _ => nomatch h
  | _ :: _, [], h, _ => nomatch h
  | v :: vs, n :: ns, h, hv => by
    obtain ⟨t, e⟩ := hv 0 v rfl
    rw [List.getD_cons_zero] at e
    subst e
    exact .cons n t (ints_of_get (by simpa using h) fun j u hu => hv (j + 1) u (by simpa using hu))
theorem pairs_unique : ∀ {a b : List Int}, a.Perm b → a.Pairwise (· ≤ ·) → b.Pairwise (· ≤ ·) → a = b := fun h ha hb => List.Perm.eq_of_pairwise (fun x y _ _ h1 h2 => Int.le_antisymm h1 h2) ha hb h
theorem vOf_sorted (m : Nat) : ((vOf m).map fun (n : Nat) => (n : Int)).Pairwise (· ≤ ·) := by
  rw [List.pairwise_map]
  refine List.Pairwise.imp (R := (· < ·)) (fun h => by omega) ?_
  unfold vOf
  exact List.Pairwise.filter _ List.pairwise_lt_range
section
variable {prog : Program} {w : World} {A : Around} {E : Value → Shared → Prop} {s : Shared} {h₀ : Heap} {L D : Addr} {m : Str → Option Value} {news : List (Addr × Obj)} {Q : Value → Shared → Prop}
/-- sorted of a set of small ints -/
theorem sorted_T {es : Array (Int × Value)} {ep k : Nat} (F : Fr h₀ L s.heap m) (N : News h₀ L s.heap news) (hm : (D, setObj es ep k (!byText w)) ∈ news) (hh : A.handled = none) (hes : EsOf es (vOf k)) (hk : k ∈ fewM)
    (h : ∀ D' c h' tk (vs : List Value), Fr h₀ L h' m → News h₀ L h' ((D', W.listOf vs.toArray c) :: news) → (∀ q ∈ news, q.1 < D') → IntsAre vs ((vOf k).map fun (n : Nat) => (n : Int)) → Q (.ref D') { s with heap := h', toks := tk }) :
    wpAny (model prog w) A (call (.builtin "sorted") [.ref D]) Q E s := by
  have h4 : (vOf k).length ≤ 4 := few_len hk
  have hsz := hes.size
  refine kdu_sorted (src_T hes hk) hh F N (N _ hm).1 (by rw [sizeLine_eq]; omega) fun D' h' tk vs F' N' l1 hl hv => ?_
  have hord : ∀ (j : Nat) (v : Value), vs[j]? = some v → ∃ t, v = .int (((ordOf w D ep es).toList.map (·.1)).getD j 0) t := by
    intro j v e
    obtain ⟨x, hx, rfl⟩ := hv j v e
    have hx' : (ordOf w D ep es).toList[j]? = some x := by rw [Array.getElem?_toList]; exact hx
    have hmem : x ∈ es.toList := (ord_perm w D ep es).mem_iff.mp (List.mem_of_getElem? hx')
    obtain ⟨t, et⟩ := hes.2 x hmem
    refine ⟨t, ?_⟩
    rw [et, List.getD_eq_getElem?_getD, List.getElem?_map, hx']
    rfl
  have hints : IntsAre vs ((ordOf w D ep es).toList.map (·.1)) := ints_of_get (by rw [hl, List.length_map, Array.length_toList, ord_size]) hord
  have hperm : ((ordOf w D ep es).toList.map (·.1)).Perm ((vOf k).map fun (n : Nat) => (n : Int)) := hes.1 ▸ (ord_perm w D ep es).map _
  refine ksk_lsort (news' := fun o => (D', o) :: news) F' N' (fun o => Upd.head fun p hp => Nat.ne_of_lt (l1 p hp)) (by simp) hints (by rw [List.length_map, Array.length_toList, ord_size]; omega) fun vs' ns' c h2 F2 N2 hi2 _ hp2 hs2 _ => ?_
  have e : ns' = (vOf k).map fun (n : Nat) => (n : Int) := pairs_unique (hp2.trans hperm) hs2 (vOf_sorted k)
  rw [e] at hi2
  exact h D' c h2 tk vs' F2 N2 l1 hi2
/-- list of a range -/
theorem list_R {r : Addr} {a b : Int} {n : Nat} {t u v : Tok} (F : Fr h₀ L s.heap m) (N : News h₀ L s.heap news) (hh : A.handled = none) (hr : IsRange s.heap r a b 1 t u v) (hsmall : Builtin.Range.small a b 1 = true) (hn : Builtin.Range.rangeSize a b 1 = (n : Int)) (hlen : n ≤ 2 ^ 24)
    (h : ∀ D' c h' tk (vs : List Value), Fr h₀ L h' m → News h₀ L h' ((D', W.listOf vs.toArray c) :: news) → (∀ q ∈ news, q.1 < D') → IntsAre vs (rangeInts a 1 n) → Q (.ref D') { s with heap := h', toks := tk }) :
    wpAny (model prog w) A (call (.type "list") [.ref r]) Q E s := by
  refine call_list_range hh hr hsmall hn hlen fun h' tk acc' c' hk hS' hacc => ?_
  refine h _ c' h' tk acc'.toList (F.keeps hk) (news_pushed F N hk (by simpa using hS') rfl) (fun q hq => Heap.lt_size (N q hq).1) ?_
  refine ints_of_get (by rw [Array.length_toList, hacc.1, rangeInts_length]) fun j v hv => ?_
  have hv' : acc'[j]? = some v := by simpa using hv
  obtain ⟨tk, rfl⟩ := hacc.2 j v hv'
  have hj : j < n := by
    have := (Array.getElem?_eq_some_iff.mp hv').1
    rw [hacc.1] at this; exact this
  refine ⟨tk, ?_⟩
  rw [List.getD_eq_getElem?_getD, rangeInts_get hj]
  rfl
end
end Mine
-- part Lb3
namespace Mine
theorem shaped_ints (ns : List Int) : SeqAt.shaped (.list (ns.map PyData.int)) = true := by
  simp [SeqAt.shaped, PyData.canLay0, PyData.canLayAll0, PyData.depth, PyData.depthAll, ke_canLayAll0, ke_depthAll]
section
variable {prog : Program} {w : World} {A : Around} {E : Value → Shared → Prop} {s : Shared} {h₀ : Heap} {L a b : Addr} {news : List (Addr × Obj)} {Q : Value → Shared → Prop} {vs ws : List Value} {xs ys : List Int} {n k : Nat}
theorem ne_ints (N : News h₀ L s.heap news) (m1 : (a, W.listOf vs.toArray n) ∈ news) (m2 : (b, W.listOf ws.toArray k) ∈ news) (S1 : IntsAre vs xs) (S2 : IntsAre ws ys) (e : xs = ys)
    (hu : A.units + 64 < cLine) (h : Q (.bool false) s) : wpAny (model prog w) A (compareOp .NotEq (.ref a) (.ref b)) Q E s := by
  subst e
  refine ne_dataH (reads_list_at (N _ m1).1 rfl rfl (by simpa using reads_intsA S1)) (reads_list_at (N _ m2).1 rfl rfl (by simpa using reads_intsA S2)) (shaped_ints xs) (shaped_ints xs) hu ?_
  have e : PyData.eqv (.list (xs.map PyData.int)) (.list (xs.map PyData.int)) = true := by
    simp only [PyData.eqv, ked_eqvAll, decide_true]
  rw [e]; exact h
end
/-- the least b's of a stretch, by the most a's -/
def leastN (l : List Nat) (i : Nat) : Nat := i + 1 - topA l i
def prefB : Nat → List Nat → Bool
  | m, [] => isFew m
  | m, x :: r => isFew m && (Nat.blt x 8 && prefB (withV m x) r)
theorem pref_ok : ∀ (r : List Nat) (m : Nat), prefB m r = true → (∀ x ∈ r, x < 8) ∧ ∀ j ≤ r.length, (r.take j).foldl withV m ∈ fewM
  | [], m, h => ⟨fun _ hx => (nomatch hx), fun j _ => by rw [List.take_nil]; exact few_of h⟩
  | x :: r, m, h => by
    obtain ⟨h1, h23⟩ := Bool.and_eq_true_iff.mp h
    obtain ⟨h2, h3⟩ := Bool.and_eq_true_iff.mp h23
    obtain ⟨g1, g2⟩ := pref_ok r _ h3
    refine ⟨fun y hy => ?_, fun j hj => ?_⟩
    · rcases List.mem_cons.mp hy with rfl | hy
      · exact Nat.le_of_ble_eq_true h2
      · exact g1 y hy
    · cases j with
      | zero => exact few_of h1
      | succ j => rw [List.take_succ_cons, List.foldl_cons]; exact g2 j (Nat.le_of_succ_le_succ hj)
theorem rng_all : (List.range 9).all (fun b => (List.range 9).all fun a => decide ((vOf (2 ^ b - 2 ^ a)).map (fun (n : Nat) => (n : Int)) = rangeInts (a : Nat) 1 (b - a))) = true := by decide +kernel
def sortB (l : List Nat) : Bool := (List.range 7).all fun i => prefB 0 (cntsN l i) && Nat.beq (mOf (cntsN l i) + 2 ^ leastN l i) (2 ^ (topN l i + 1))
theorem sort_all : (allW 7).all sortB = true := by decide +kernel
theorem sortOk {l : List Nat} (hl : l ∈ allW 7) {i : Nat} (hi : i < 7) : (∀ x ∈ cntsN l i, x < 8) ∧ (∀ j ≤ (cntsN l i).length, mOf ((cntsN l i).take j) ∈ fewM) ∧
    (vOf (mOf (cntsN l i))).map (fun (n : Nat) => (n : Int)) = rangeInts (leastN l i : Nat) 1 (topN l i + 1 - leastN l i) := by
  have h := List.all_eq_true.mp (List.all_eq_true.mp sort_all l hl) i (List.mem_range.mpr hi)
  obtain ⟨h1, h2⟩ := Bool.and_eq_true_iff.mp h
  obtain ⟨g1, g2⟩ := pref_ok _ 0 h1
  refine ⟨g1, g2, ?_⟩
  have e : mOf (cntsN l i) = 2 ^ (topN l i + 1) - 2 ^ leastN l i := by
    have := Nat.eq_of_beq_eq_true h2
    omega
  have ht := topN_le l i
  have hn : leastN l i < 9 := by unfold leastN; omega
  rw [e]
  exact of_decide_eq_true (List.all_eq_true.mp (List.all_eq_true.mp rng_all (topN l i + 1) (List.mem_range.mpr (by omega))) (leastN l i) (List.mem_range.mpr hn))
section
variable {prog : Program} {w : World} {A : Around} {E : Value → Shared → Prop} {s : Shared} {h₀ : Heap} {L D : Addr} {m : Str → Option Value} {news : List (Addr × Obj)} {Q : Value → Shared → Prop} {vs : List Value} {n i : Nat} {l : List Nat}
/-- set(counts) -/
theorem set_C (F : Fr h₀ L s.heap m) (N : News h₀ L s.heap news) (hm : (D, W.listOf vs.toArray n) ∈ news) (hv : IntsAre vs (cntsI l i)) (hh : A.handled = none) (hl : l ∈ allW 7) (hi : i < 7)
    (h : ∀ D h' (tk : Nat) es ep, Fr h₀ L h' m → News h₀ L h' ((D, setObj es ep (mOf (cntsN l i)) (!byText w)) :: news) → (∀ p ∈ news, p.1 < D) → EsOf es (vOf (mOf (cntsN l i))) → Q (.ref D) { s with heap := h', toks := tk }) :
    wpAny (model prog w) A (call (.type "set") [.ref D]) Q E s :=
  set_N F N hh hm hv (sortOk hl hi).1 (sortOk hl hi).2.1 h
/-- sorted(set(counts)) -/
theorem sorted_C {es : Array (Int × Value)} {ep : Nat} (F : Fr h₀ L s.heap m) (N : News h₀ L s.heap news) (hm : (D, setObj es ep (mOf (cntsN l i)) (!byText w)) ∈ news) (hes : EsOf es (vOf (mOf (cntsN l i)))) (hh : A.handled = none) (hl : l ∈ allW 7) (hi : i < 7)
    (h : ∀ D' c h' tk (vs : List Value), Fr h₀ L h' m → News h₀ L h' ((D', W.listOf vs.toArray c) :: news) → (∀ q ∈ news, q.1 < D') → IntsAre vs (rangeInts (leastN l i : Nat) 1 (topN l i + 1 - leastN l i)) → Q (.ref D') { s with heap := h', toks := tk }) :
    wpAny (model prog w) A (call (.builtin "sorted") [.ref D]) Q E s := by
  obtain ⟨_, g2, g3⟩ := sortOk hl hi
  have hk := g2 _ (Nat.le_refl _)
  rw [List.take_length] at hk
  refine sorted_T F N hm hh hes hk fun D' c h' tk vs F' N' l1 hi2 => ?_
  rw [g3] at hi2
  exact h D' c h' tk vs F' N' l1 hi2
end
/-- the most b's grow by none or one -/
def tailB (l : List Nat) : Bool := (List.range 7).all fun i => decide ((formK l i).count 98 ≤ topN l i) && decide (topN l i ≤ (formK l i).count 98 + 1) && decide (leastN l i ≤ topN l i + 1) && decide (topA l i ≤ i + 1)
theorem tail_all : (allW 7).all tailB = true := by decide +kernel
theorem tailOk {l : List Nat} (hl : l ∈ allW 7) {i : Nat} (hi : i < 7) : (formK l i).count 98 ≤ topN l i ∧ topN l i ≤ (formK l i).count 98 + 1 ∧ leastN l i ≤ topN l i + 1 := by
  have h := List.all_eq_true.mp (List.all_eq_true.mp tail_all l hl) i (List.mem_range.mpr hi)
  simp only [tailB, Bool.and_eq_true, decide_eq_true_eq] at h
  exact ⟨h.1.1.1, h.1.1.2, h.1.2⟩
theorem rng_C {l : List Nat} {i : Nat} {a b : Int} (hl : l ∈ allW 7) (hi : i < 7) (hA : topA l i ≤ i + 1) (ha : a = 0 + (i : Int) + 2 - (((topA l i + 2 : Nat) : Int) - 1)) (hb : b = ((topN l i + 2 : Nat) : Int) - 1 - 1 + 1) :
    rangeInts (leastN l i : Nat) 1 (topN l i + 1 - leastN l i) = rangeInts a 1 (b - a).toNat := by
  have h3 := (tailOk hl hi).2.2
  have e : a = ((leastN l i : Nat) : Int) := by unfold leastN; omega
  rw [e]
  congr 1
  omega
theorem cntb_is (x : List Nat) : Txt.count (mkS x) (Str.ofString "b") = ((x.count 98 : Nat) : Int) := by
  have e3 : Str.ofString "b" = ⟨#[98]⟩ := by decide
  rw [e3, cnt_list]
def nextB (l : List Nat) (i : Nat) : Nat := topN l i - (formK l i).count 98
theorem next_is {l : List Nat} {i : Nat} (hl : l ∈ allW 7) (hi : i < 7) : ((topN l i + 2 : Nat) : Int) - 1 - 1 - Txt.count (mkS (formK l i)) (Str.ofString "b") = ((nextB l i : Nat) : Int) ∧ nextB l i < 2 := by
  obtain ⟨h1, h2, _⟩ := tailOk hl hi
  rw [cntb_is]
  unfold nextB
  omega
theorem any01 {x : Int} {t u : Tok} (hx : x = 0 ∨ x = 1) : (!(#[Value.int 0 t, Value.int 1 u] : Array Value).toList.any (isInt x)) = false := by
  rcases hx with rfl | rfl <;> rfl
section
variable {prog : Program} {w : World} {A : Around} {E : Value → Shared → Prop} {s : Shared} {h₀ : Heap} {L D : Addr} {news : List (Addr × Obj)} {Q : Value → Shared → Prop} {n i : Nat} {l : List Nat} {t u v : Tok} {x : Int}
/-- top - form.count('b') not in [0, 1] -/
theorem notin_C {its : Array Value} (N : News h₀ L s.heap news) (hm : (D, W.listOf its n) ∈ news) (e : its = #[Value.int 0 t, Value.int 1 u]) (hl : l ∈ allW 7) (hi : i < 7) (ex : x = ((topN l i + 2 : Nat) : Int) - 1 - 1 - Txt.count (mkS (formK l i)) (Str.ofString "b")) (h : Q (.bool false) s) :
    wpAny (model prog w) A (compareOp .NotIn (.int x v) (.ref D)) Q E s := by
  obtain ⟨h1, h2⟩ := next_is hl hi
  subst e
  exact kf_notin N hm rfl (any01 (by rw [ex, h1]; omega)) h
end
theorem form_len (l : List Nat) : ∀ i, (formK l i).length = i
  | 0 => rfl
  | i + 1 => by
    show (formK l i ++ [_]).length = i + 1
    rw [List.length_append, form_len l i]; rfl
theorem mk_app (a b : List Nat) : mkS a ++ mkS b = mkS (a ++ b) := by
  show (⟨a.toArray ++ b.toArray⟩ : Str) = ⟨(a ++ b).toArray⟩
  rw [List.append_toArray]
theorem form_step (l : List Nat) (i : Nat) : mkS (formK l i) ++ mkS [if nextB l i = 0 then 97 else 98] = mkS (formK l (i + 1)) := mk_app _ _
theorem tops_step (l : List Nat) (i : Nat) : topsK l (i + 1) = topsK l i ++ [(topN l i : Int)] := by
  unfold topsK
  rw [List.range_succ, List.map_append]; rfl
section
variable {prog : Program} {w : World} {A : Around} {E : Value → Shared → Prop} {s : Shared} {value slice : Expr} {Q : Value → Shared → Prop} {i : Nat} {l : List Nat} {t u : Tok} {x : Int}
/-- 'ab'[top - form.count('b')] -/
theorem item_C (hl : l ∈ allW 7) (hi : i < 7) (ex : x = ((topN l i + 2 : Nat) : Int) - 1 - 1 - Txt.count (mkS (formK l i)) (Str.ofString "b")) (h : ∀ t' tk, Q (.str (mkS [if nextB l i = 0 then 97 else 98]) t') { s with toks := tk })
    (hs : subscripted slice false (.str (Str.ofString "ab") t) (.int x u) = operate [.str (Str.ofString "ab") t, .int x u] (getItem (.str (Str.ofString "ab") t) (.int x u)) := by with_unfolding_all rfl)
    (ht : ∀ r, letTemporaryGo value (.str (Str.ofString "ab") t) r = pure () := by intro _; with_unfolding_all rfl) :
    wpAny (model prog w) A (subscriptTail value slice (.str (Str.ofString "ab") t) (.int x u)) Q E s := by
  obtain ⟨h1, h2⟩ := next_is hl hi
  have e : x = 0 ∧ nextB l i = 0 ∨ x = 1 ∧ nextB l i = 1 := by omega
  rcases e with ⟨rfl, e⟩ | ⟨rfl, e⟩
  · refine item_str (by decide) (by decide) (by decide) (fun _ => ?_) hs ht
    have : Txt.item (Str.ofString "ab") 0 = mkS [if nextB l i = 0 then 97 else 98] := by rw [e]; decide
    rw [this]; exact h _ _
  · refine item_str (by decide) (by decide) (by decide) (fun _ => ?_) hs ht
    have : Txt.item (Str.ofString "ab") 1 = mkS [if nextB l i = 0 then 97 else 98] := by rw [e]; decide
    rw [this]; exact h _ _
theorem iadd_C (hi : i < 7) (h : ∀ t' tk, Q (.str (mkS (formK l (i + 1))) t') { s with toks := tk }) :
    wpAny (model prog w) A (inplaceOp .Add (.str (mkS (formK l i)) t) (.str (mkS [if nextB l i = 0 then 97 else 98]) u)) Q E s := by
  refine iadd_str (fun t' k => ?_) ?_
  · rw [form_step]; exact h _ _
  · show (formK l i).toArray.size + _ ≤ _
    rw [List.size_toArray, form_len, sizeLine_eq]
    show i + 1 ≤ _
    omega
end
section
variable {M : Model} {A : Around} {E : Value → Shared → Prop} {s : Shared} {name : Str} {scope : Scope} {L a : Addr} {cd : Value} {h₀ : Heap} {m : Str → Option Value} {news : List (Addr × Obj)}
/-- a cell is stored -/
theorem stC {x : Str} {c : Addr} {o : Obj} {v₀ : Option Value} {v : Value} {g : Obj → List (Addr × Obj)} {Q : Unit → Shared → Prop} (F : Fr h₀ L s.heap m) (N : News h₀ L s.heap news)
    (hc : (cellsFrom (L + 1) scope.names []).lookup x = some c) (U : ∀ o', Upd c o o' news (g o')) (hd : o.data = .cell v₀)
    (h : ∀ h' o', Fr h₀ L h' m → News h₀ L h' (g o') → o'.data = .cell (some v) → Q () { s with heap := h' })
    (hk : scope.kind = .function := by rfl) (hl : (envOfC name scope L a cd).kindOf x = some .cell := by rfl) : wpAny M A (storeName (envOfC name scope L a cd) x v) Q E s := by
  obtain ⟨pre, post, e1, _, h1, h2⟩ := (U o).split
  have hmem := N (c, o) (by rw [e1]; exact List.mem_append_right _ (.head _))
  refine wpAny_storeName_cell hk hl hc ⟨o, hmem.1, hd⟩ fun h' hv hs => ?_
  obtain ⟨o', ho', hd'⟩ := hv
  obtain ⟨pre', post', e3, e4, h3, h4⟩ := (U o').split
  refine h h' o' ⟨F.ns.sameBut hs (Ne.symm hmem.2.1), fun b ob e => (hs.2 b (fun q => ?_)).trans (F.keep b ob e), F.above⟩ (e4 ▸ (e3 ▸ N).setAt h3 h4 hs ho') hd'
  rw [q, hmem.2.2] at e; cases e
end
theorem ho_same {l l' : List (Addr × Obj)} {I : Addr} (h : ∀ p ∈ l, p.1 ≠ I) (e : l'.map (·.1) = l.map (·.1)) : ∀ p ∈ l', p.1 ≠ I := by
  intro p hp
  have : p.1 ∈ l'.map (·.1) := List.mem_map_of_mem hp
  rw [e] at this
  obtain ⟨q, hq, e2⟩ := List.mem_map.mp this
  rw [← e2]; exact h q hq
theorem topsK_len (l : List Nat) (i : Nat) : (topsK l i).length = i := by unfold topsK; rw [List.length_map, List.length_range]
theorem tops_len {l : List Nat} {i : Nat} {vs : List Value} (h : IntsAre vs (topsK l i)) (hi : i < 7) : vs.length ≤ 100000 := by rw [h.length, topsK_len]; omega
theorem tops_app {l : List Nat} {i : Nat} {vs : List Value} {x : Int} {t : Tok} (h : IntsAre vs (topsK l i)) (hx : x = ((topN l i + 2 : Nat) : Int) - 1 - 1) : IntsAre (vs ++ [.int x t]) (topsK l (i + 1)) := by
  rw [tops_step]
  have e : x = (topN l i : Int) := by omega
  rw [e]
  exact h.append (.cons _ _ .nil)
end Mine
-- part CompR
namespace Mine
section
variable {prog : Program} {w : World} {A : Around} {E : Value → Shared → Prop} {s : Shared} {env : Env}
abbrev rgI (a b : Int) : Obj := { cls := .type "range_iterator", data := .fields #[rawInt a, rawInt (Builtin.Range.rangeSize a b 1), rawInt 1] }
structure RTurn (prog : Program) (w : World) (A : Around) (env : Env) (elt : Expr) (x : Str) (ifs : List Expr) (scope : Scope) (cl : List (Str × Addr)) (ch : List Addr) (a₀ : Int) (n : Nat) (J : Nat → List Value → Heap → Prop) (s₁ : Shared) : Prop where
  go : ∀ i v ys C m₂ s₂ E', i < n → (∃ t, v = .int (a₀ + (i : Nat) * 1) t) → ys.length ≤ i → J i ys s₂.heap → s₁.heap.objs.size ≤ C → s₂.heap.Ns (compEnvC scope cl C env).locals m₂ → m₂ x = some v → (∃ h' tk, s₂ = { s₁ with heap := h', toks := tk }) → 1 ≤ s₂.toks →
    (∀ b o, b ∉ ch → s₁.heap.get? b = some o → s₂.heap.get? b = some o) →
    wpAny (model prog w) A (testsOf ifs (compEnvC scope cl C env)) (fun ok s₃ => Keeps s₂ s₃ ∧ if ok = true then wpAny (model prog w) A (eval elt (compEnvC scope cl C env)) (fun y s₄ => KeepsBut ch s₃ s₄ ∧ J (i + 1) (ys ++ [y]) s₄.heap) E' s₃ else J (i + 1) ys s₃.heap) E' s₂
def RSrc (prog : Program) (w : World) (A : Around) (env : Env) (elt : Expr) (x : Str) (ifs : List Expr) (scope : Scope) (cl : List (Str × Addr)) (Q : Value → Shared → Prop) (xv : Value) (s₁ : Shared) : Prop :=
  ∃ R a₀ b₀ t₀ u₀ v₀ n ch J, xv = .ref R ∧ A.handled = none ∧ 1 ≤ s₁.toks ∧ IsRange s₁.heap R a₀ b₀ 1 t₀ u₀ v₀ ∧ Builtin.Range.small a₀ b₀ 1 = true ∧ Builtin.Range.rangeSize a₀ b₀ 1 = ((n : Nat) : Int) ∧ n ≤ 1000 ∧ (∀ b ∈ ch, b < s₁.heap.objs.size) ∧ (∀ i ys h h', J i ys h → (∀ b ∈ ch, ∀ o, h.get? b = some o → h'.get? b = some o) → J i ys h') ∧ J 0 [] s₁.heap ∧
    RTurn prog w A env elt x ifs scope cl ch a₀ n J s₁ ∧
    ∀ D ys h' tk, J n ys h' → (∀ b o, b ∉ ch → s₁.heap.get? b = some o → h'.get? b = some o) → h'.get? D = some (LCg.lst ys) → s₁.heap.objs.size ≤ D → 1 ≤ tk → Q (.ref D) { s₁ with heap := h', toks := tk }
theorem block_R {elt iter : Expr} {ifs : List Expr} {x : Str} {px : Pos} {scope : Scope} {cl : List (Str × Addr)} {pos : Pos} {s₀ s₂ : Shared} {I : Addr} {a₀ : Int} {n : Nat} {ch : List Addr} {J : Nat → List Value → Heap → Prop}
    {RR : Value → Addr → Result → Shared → Prop} (hh : A.handled = none) (htk : 1 ≤ s₂.toks) (hsz : n ≤ 1000) (hst : IsRangeIter s₂.heap I (a₀ + ((0 : Nat) : Int) * 1) ((n : Int) - ((0 : Nat) : Int)) 1) (hIlt : I < s₂.heap.objs.size)
    (hch : ∀ b ∈ ch, b < s₂.heap.objs.size ∧ b ≠ I) (hJ : ∀ i ys h h', J i ys h → (∀ b ∈ ch, ∀ o, h.get? b = some o → h'.get? b = some o) → J i ys h') (hJ0 : J 0 [] s₂.heap)
    (hcell : ∀ y ∈ scope.names, y.2 ≠ .cell) (hkind : scope.kind = .function) (hx : scope.names.lookup x = some .local) (hs0 : ∃ h' tk, s₂ = { s₀ with heap := h', toks := tk }) (h0le : s₀.heap.objs.size ≤ s₂.heap.objs.size) (hI0 : s₀.heap.objs.size ≤ I) (h0 : ∀ b o, s₀.heap.get? b = some o → s₂.heap.get? b = some o)
    (T : RTurn prog w A env elt x ifs scope cl ch a₀ n J s₀)
    (hRR : ∀ D C h tk m' ys, J n ys h → (∀ b o, b ∉ ch → s₀.heap.get? b = some o → h.get? b = some o) → h.get? D = some (LCg.lst ys) → s₂.heap.objs.size ≤ D → s₂.heap.objs.size ≤ C → C ≠ D → h.Ns C m' → 1 ≤ tk → RR (.ref D) C (.ok .next) { s₂ with heap := h, toks := tk }) :
    wpAny (model prog w) A (newList []) (fun acc s₃ => wpAny (model prog w) A (newFunctionEnv scope env.globals cl [] env.qual none .none (some env)) (fun cenv s₄ =>
      codeAny (model prog w) A (.compStart (.ListComp elt [⟨.Name x px, iter, ifs, 0⟩] scope pos) 0 (.ref I) acc { cenv with scope := relabel scope env }) (RR acc cenv.locals) s₄) E s₃) E s₂ := by
  have W := Walks.range (prog := prog) (w := w) (A := A) hh I a₀ 1 n
  have hfp : ∀ b ∈ [I], b < s₂.heap.objs.size := fun b hb => by
    rw [List.mem_singleton.mp hb]; exact hIlt
  refine wpAny_newObj_type (wpAny_newFunctionEnv hcell (by intro y hy; simp at hy) (fun h₁ hns₁ hsb₁ => ?_) hkind)
  dsimp only at hns₁ hsb₁ ⊢
  generalize hH2 : s₂.heap.push { cls := .type "list", dict := none, data := .seq ([] : List Value).toArray } = H2 at hns₁ hsb₁ ⊢
  have hC : H2.objs.size = s₂.heap.objs.size + 1 := by rw [← hH2, Heap.size_push]
  have hDC : s₂.heap.objs.size ≠ H2.objs.size := by rw [hC]; exact Nat.ne_of_lt (Nat.lt_succ_self _)
  have below : ∀ b, b < s₂.heap.objs.size → b ≠ H2.objs.size ∧ b ≠ s₂.heap.objs.size := fun b hb => ⟨by rw [hC]; exact Nat.ne_of_lt (Nat.lt_succ_of_lt hb), Nat.ne_of_lt hb⟩
  have hDf : s₂.heap.objs.size ∉ [I] := fun hm => Nat.lt_irrefl _ (hfp _ hm)
  have hCf : H2.objs.size ∉ [I] := fun hm => by have := hfp _ hm; rw [hC] at this; exact Nat.lt_irrefl _ (Nat.lt_of_succ_lt this)
  have hDw : s₂.heap.objs.size ∉ [I] := fun hm => hDf (W.sub _ hm)
  have hCw : H2.objs.size ∉ [I] := fun hm => hCf (W.sub _ hm)
  have hDc : s₂.heap.objs.size ∉ ch := fun hm => Nat.lt_irrefl _ (hch _ hm).1
  have hCc : H2.objs.size ∉ ch := fun hm => by have := (hch _ hm).1; rw [hC] at this; exact Nat.lt_irrefl _ (Nat.lt_of_succ_lt this)
  have old : ∀ b o, s₂.heap.get? b = some o → h₁.get? b = some o := fun b o e => hsb₁.extBut b o (below b (Heap.lt_size e)).1 (Heap.get?_push_of_some _ (hH2 ▸ Heap.get?_push_of_some _ e))
  have hacc : h₁.get? s₂.heap.objs.size = some (LCg.lst []) := hsb₁.extBut _ _ hDC (Heap.get?_push_of_some _ (hH2 ▸ Heap.get?_push_size _ rfl))
  have hst₁ : IsRangeIter h₁ I (a₀ + ((0 : Nat) : Int) * 1) ((n : Int) - ((0 : Nat) : Int)) 1 := W.frame _ _ _ hst fun b _ o e => old b o e
  have loop : ∀ s₃ : Shared, s₃ = { s₂ with heap := h₁, toks := s₂.toks + ([] : List (Str × Value)).length } →
      codeAny (model prog w) A (.compLoop (.ListComp elt [⟨.Name x px, iter, ifs, 0⟩] scope pos) 0 (.ref I) (.ref s₂.heap.objs.size) (compEnvC scope cl H2.objs.size env))
        (RR (.ref s₂.heap.objs.size) H2.objs.size) s₃ := by
    rintro s₃ rfl
    refine codeAny_compLoop_tests
      (fun k s' => ∃ h' tk i ys m', s' = { s₂ with heap := h', toks := tk } ∧ 1 ≤ tk ∧ i ≤ n ∧ k = n + 1 - i ∧ ys.length ≤ i ∧ (IsRangeIter h' I (a₀ + ((i : Nat) : Int) * 1) ((n : Int) - ((i : Nat) : Int)) 1) ∧ h'.Ns H2.objs.size m' ∧ h'.get? s₂.heap.objs.size = some (LCg.lst ys) ∧ J i ys h' ∧
        (∀ b o, b ∉ ch → s₀.heap.get? b = some o → h'.get? b = some o)) ?_ (n + 1)
      ⟨h₁, _, 0, [], _, rfl, htk, Nat.zero_le _, rfl, Nat.le_refl _, hst₁, hns₁, hacc, hJ _ _ _ _ hJ0 fun b _ o e => old b o e, fun b o _ e => old b o (h0 b o e)⟩
    rintro k s' ⟨h', tk, i, ys, m', rfl, htk', hi, rfl, hyl, hst', hn', hD', hJ', hk'⟩
    have old0 : ∀ b o, s₀.heap.get? b = some o → b ≠ I ∧ b ≠ H2.objs.size ∧ b ≠ s₂.heap.objs.size := fun b o e => ⟨fun q => Nat.lt_irrefl _ (Nat.lt_of_lt_of_le (q ▸ Heap.lt_size e) hI0), (below b (Nat.lt_of_lt_of_le (Heap.lt_size e) h0le)).1, (below b (Nat.lt_of_lt_of_le (Heap.lt_size e) h0le)).2⟩
    by_cases hlt : i < n
    · refine with_toksQ (n := 1) (s := { s₂ with heap := h', toks := tk }) htk' ?_
      refine W.item i _ _ _ hlt hst' fun v h₂ tk₂ hPv hst₂ hk₂ => ?_
      intro htk₂
      replace htk₂ : 1 ≤ tk₂ := htk₂
      replace hk₂ : ∀ b o, b ∉ [I] → h'.get? b = some o → h₂.get? b = some o := hk₂
      refine with_toksQ (n := 1) (s := { s₂ with heap := h₂, toks := tk₂ }) htk₂ ?_
      refine wpAny_assign_Name (wpAny_storeName_local (lookup_relabel_local hx) (hn'.at' fun o e => hk₂ _ o hCw e) (fun h₇ hn₇ hs₇ => ?_) (by simp [compEnvC, relabel, hkind]))
      intro htk₇
      have hst₇ : IsRangeIter h₇ I (a₀ + (((i + 1) : Nat) : Int) * 1) ((n : Int) - (((i + 1) : Nat) : Int)) 1 := W.frame _ _ _ hst₂ fun b hb o e => hs₇.extBut b o (fun q => hCf (by have q' : b = H2.objs.size := q; rw [← q']; exact hb)) e
      have up : ∀ b o, b ∉ [I] → b ≠ H2.objs.size → h'.get? b = some o → h₇.get? b = some o := fun b o hb hb2 e => hs₇.extBut b o hb2 (hk₂ _ _ hb e)
      have hJ₇ : J i ys h₇ := hJ _ _ _ _ hJ' fun b hb o e => up b o (fun q => (hch b hb).2 (List.mem_singleton.mp q)) (fun q => hCc (q ▸ hb)) e
      have hD₇ := up _ _ hDw hDC hD'
      have hk₇ : ∀ b o, b ∉ ch → s₀.heap.get? b = some o → h₇.get? b = some o := fun b o h2 e => up b o (fun q => (old0 b o e).1 (List.mem_singleton.mp q)) (old0 b o e).2.1 (hk' b o h2 e)
      obtain ⟨hh0, tt0, e0⟩ := hs0
      refine with_toksQ (n := 1) htk₇ ?_
      refine wpAny_mono (T.go i v ys H2.objs.size _ ⟨h₇, s₂.gens, s₂.drawn, _, s₂.os⟩ _ hlt hPv hyl hJ₇ (Nat.le_trans h0le (by rw [hC]; exact Nat.le_succ _)) hn₇ (by simp) ⟨h₇, _, by rw [e0]⟩ htk₇ hk₇) (fun ok s₈ h₈ => ?_) fun _ _ e => e
      intro htk₈
      obtain ⟨⟨h₈', tk₈, rfl, k₈⟩, z⟩ := h₈
      replace k₈ : ∀ b o, h₇.get? b = some o → h₈'.get? b = some o := k₈
      replace htk₈ : 1 ≤ tk₈ := htk₈
      have hst₈ : IsRangeIter h₈' I (a₀ + (((i + 1) : Nat) : Int) * 1) ((n : Int) - (((i + 1) : Nat) : Int)) 1 := W.frame _ _ _ hst₇ fun b _ o e => k₈ b o e
      cases ok with
      | false =>
        simp only [Bool.false_eq_true, if_false] at z ⊢
        exact ⟨n + 1 - (i + 1), by omega, h₈', tk₈, i + 1, ys, _, rfl, htk₈, hlt, rfl, Nat.le_succ_of_le hyl, hst₈, hn₇.at' fun o e => k₈ _ o e, k₈ _ _ hD₇, z, fun b o h2 e => k₈ _ _ (hk₇ b o h2 e)⟩
      | true =>
        simp only [if_true] at z ⊢
        refine with_toksQ (n := 1) (s := ⟨h₈', s₂.gens, s₂.drawn, tk₈, s₂.os⟩) htk₈ ?_
        refine wpAny_mono z (fun y s₉ h₉ => ?_) fun _ _ e => e
        intro htk₉
        obtain ⟨⟨h₉', tk₉, rfl, k₉⟩, hJ₉⟩ := h₉
        replace k₉ : ∀ b o, b ∉ ch → h₈'.get? b = some o → h₉'.get? b = some o := k₉
        replace hJ₉ : J (i + 1) (ys ++ [y]) h₉' := hJ₉
        replace htk₉ : 1 ≤ tk₉ := htk₉
        have hst₉ : IsRangeIter h₉' I (a₀ + (((i + 1) : Nat) : Int) * 1) ((n : Int) - (((i + 1) : Nat) : Int)) 1 := W.frame _ _ _ hst₈ fun b hb o e => k₉ b o (fun q => (hch b q).2 (List.mem_singleton.mp hb)) e
        have hD₉ : h₉'.get? s₂.heap.objs.size = some (LCg.lst ys) := k₉ _ _ hDc (k₈ _ _ hD₇)
        refine append_at (s := ⟨h₉', s₂.gens, s₂.drawn, tk₉, s₂.os⟩) (hsz := by show ys.toArray.size ≤ sizeLine; rw [List.size_toArray, sizeLine_eq]; omega) hD₉ fun h₁₀ hs₁₀ hD₁₀ => ?_
        refine ⟨n + 1 - (i + 1), by omega, h₁₀, tk₉, i + 1, ys ++ [y], _, rfl, htk₉, hlt, rfl, by rw [List.length_append, List.length_singleton]; omega, W.frame _ _ _ hst₉ fun b hb o e => hs₁₀.extBut b o (fun q => hDf (q ▸ hb)) e,
          ((hn₇.at' fun o e => k₉ _ o hCc (k₈ _ o e)).sameBut hs₁₀ (Ne.symm hDC)), hD₁₀.trans (congrArg some (LCg.lst_snoc ys y)), hJ _ _ _ _ hJ₉ fun b hb o e => hs₁₀.extBut b o (fun q => hDc (q ▸ hb)) e, fun b o h2 e => ?_⟩
        exact hs₁₀.extBut _ _ (old0 b o e).2.2 (k₉ _ _ h2 (k₈ _ _ (hk₇ b o h2 e)))
    · obtain rfl : i = n := Nat.le_antisymm hi (Nat.not_lt.mp hlt)
      refine with_toksQ (n := 1) (s := { s₂ with heap := h', toks := tk }) htk' ?_
      refine W.done _ _ _ hst' fun h₂ tk₂ hk₂ => ?_
      intro htk₂
      replace hk₂ : ∀ b o, b ∉ [I] → h'.get? b = some o → h₂.get? b = some o := hk₂
      exact hRR _ _ h₂ tk₂ _ ys (hJ _ _ _ _ hJ' fun b hb o e => hk₂ b o (fun q => (hch b hb).2 (List.mem_singleton.mp q)) e) (fun b o h2 e => hk₂ _ _ (fun q => (old0 b o e).1 (List.mem_singleton.mp q)) (hk' b o h2 e)) (hk₂ _ _ hDw hD') (Nat.le_refl _) (by rw [hC]; exact Nat.le_succ _) (Ne.symm hDC) (hn'.at' fun o e => hk₂ _ o hCw e) htk₂
  exact codeAny_compStart_list (loop _ rfl) (W.self 0 _ _ _ hst₁ (loop _ rfl))
theorem ListComp_R {elt iter : Expr} {ifs : List Expr} {x : Str} {px : Pos} {scope : Scope} {cl : List (Str × Addr)} {pos : Pos} {Q : Value → Shared → Prop}
    (hclos : closureFor scope env = pure cl) (hcell : ∀ y ∈ scope.names, y.2 ≠ .cell) (hkind : scope.kind = .function)
    (hnames : ∀ y ∈ scope.names, y.2 = .local → scope.names.lookup y.1 = some .local) (hx : scope.names.lookup x = some .local)
    (h : wpAny (model prog w) A (eval iter env) (fun xv s₁ => Hold (RSrc prog w A env elt x ifs scope cl Q xv s₁)) E s)
    (hs : ∀ x, foldedSetIterable iter env x = pure x := by intro _; rfl) :
    wpAny (model prog w) A (eval (.ListComp elt [⟨.Name x px, iter, ifs, 0⟩] scope pos) env) Q E s := by
  rw [eval_ListComp]
  refine wpAny_comprehension_free (use := none) rfl hs hclos hkind hnames (wpAny_mono h (fun xv s₁ h₁ => ?_) fun _ _ e => e)
  obtain ⟨R, a₀, b₀, t₀, u₀, v₀, n, ch, J, rfl, hh, htk, hr, hsmall, hnn, hsz, hch, hJ, hJ0, T, fin⟩ := h₁.out
  refine wpAny_pyIter_range hr hsmall ?_
  have up : ∀ b o, s₁.heap.get? b = some o → (s₁.heap.push (rgI a₀ b₀)).get? b = some o := fun b o e => Heap.get?_push_of_some _ e
  have z1 : (s₁.heap.push (rgI a₀ b₀)).objs.size = s₁.heap.objs.size + 1 := Heap.size_push ..
  refine block_R (s₀ := s₁) (I := s₁.heap.objs.size) (a₀ := a₀) (n := n) hh htk hsz (by show IsRangeIter _ _ _ _ _; rw [hnn]; simpa using Heap.get?_push_size _ rfl) (by show _ < (s₁.heap.push _).objs.size; rw [z1]; exact Nat.lt_succ_self _)
    (fun b hb => ⟨by show b < (s₁.heap.push _).objs.size; rw [z1]; exact Nat.lt_succ_of_lt (hch b hb), Nat.ne_of_lt (hch b hb)⟩) hJ (hJ _ _ _ _ hJ0 fun b _ o e => up b o e) hcell hkind hx ⟨_, _, rfl⟩ (by show _ ≤ (s₁.heap.push _).objs.size; rw [z1]; exact Nat.le_succ _) (Nat.le_refl _) up T ?_
  intro D C h tk m' ys hJn hk hD hDs hCs hCD hn htk'
  have hCs' : s₁.heap.objs.size ≤ C := Nat.le_trans (by show _ ≤ (s₁.heap.push _).objs.size; rw [z1]; exact Nat.le_succ _) hCs
  refine ⟨m', hn, fun h'' hs'' => fin D ys h'' tk (hJ _ _ _ _ hJn fun b hb o e => hs''.extBut b o (fun q => Nat.lt_irrefl _ (Nat.lt_of_lt_of_le (q ▸ (hch b hb)) hCs')) e) (fun b o h2 e => hs''.extBut b o (fun q => Nat.lt_irrefl _ (Nat.lt_of_lt_of_le (q ▸ Heap.lt_size e) hCs')) (hk b o h2 e)) (hs''.extBut _ _ (Ne.symm hCD) hD) (Nat.le_trans (by show _ ≤ (s₁.heap.push _).objs.size; rw [z1]; exact Nat.le_succ _) hDs) htk'⟩
theorem range_src {R : Addr} {a₀ b₀ : Int} {t₀ u₀ v₀ : Tok} {n : Nat} {elt : Expr} {ifs : List Expr} {x : Str} {scope : Scope} {cl : List (Str × Addr)} {Q : Value → Shared → Prop} {h₀ : Heap} {L : Addr} {m : Str → Option Value} {news : List (Addr × Obj)} (J : Nat → List Value → Prop)
    (hh : A.handled = none) (htk : 1 ≤ s.toks) (F : Fr h₀ L s.heap m) (N : News h₀ L s.heap news) (hr : IsRange s.heap R a₀ b₀ 1 t₀ u₀ v₀) (hsmall : Builtin.Range.small a₀ b₀ 1 = true) (hn : Builtin.Range.rangeSize a₀ b₀ 1 = ((n : Nat) : Int)) (hz : n ≤ 1000) (hJ0 : J 0 [])
    (turn : ∀ (i : Nat) ty ys C m₂ (s₂ : Shared) E', i < n → J i ys → s.heap.objs.size ≤ C → s₂.heap.Ns (compEnvC scope cl C env).locals m₂ → m₂ x = some (.int (a₀ + (i : Int)) ty) → Fr h₀ L s₂.heap m → News h₀ L s₂.heap news → 1 ≤ s₂.toks →
      (∃ h' tk, s₂ = { s with heap := h', toks := tk }) → (∀ b o, s.heap.get? b = some o → s₂.heap.get? b = some o) →
      wpAny (model prog w) A (testsOf ifs (compEnvC scope cl C env)) (fun ok s₃ => Keeps s₂ s₃ ∧ if ok = true then wpAny (model prog w) A (eval elt (compEnvC scope cl C env)) (fun y s₄ => Keeps s₃ s₄ ∧ J (i + 1) (ys ++ [y])) E' s₃ else J (i + 1) ys) E' s₂)
    (fin : ∀ D ys h' tk, J n ys → Fr h₀ L h' m → News h₀ L h' ((D, W.listOf ys.toArray ys.length) :: news) → (∀ p ∈ news, p.1 < D) → 1 ≤ tk → Q (.ref D) { s with heap := h', toks := tk }) :
    Hold (RSrc prog w A env elt x ifs scope cl Q (.ref R) s) := by
  refine Hold.go ⟨R, a₀, b₀, t₀, u₀, v₀, n, [], fun i ys _ => J i ys, rfl, hh, htk, hr, hsmall, hn, hz, (fun _ hb => nomatch hb), fun _ _ _ _ h _ => h, hJ0, ⟨?_⟩, ?_⟩
  · intro i v ys C m₂ s₂ E' hi hv _ hJ hC hns hmx hs htk2 hk
    have hk : ∀ b o, s.heap.get? b = some o → s₂.heap.get? b = some o := fun b o q => hk b o List.not_mem_nil q
    obtain ⟨ty, rfl⟩ := hv
    rw [Int.mul_one] at hmx
    refine wpAny_mono (turn i ty ys C m₂ s₂ E' hi hJ hC hns hmx (keepsFr F hk) (keepsNews N hk) htk2 hs hk) (fun ok s₃ z => ⟨z.1, ?_⟩) fun _ _ e => e
    cases ok with
    | false => exact z.2
    | true =>
      have z2 := z.2
      simp only [if_true] at z2 ⊢
      refine wpAny_mono z2 (fun y s₄ q => ⟨?_, q.2⟩) fun _ _ e => e
      obtain ⟨h', tk, e, k⟩ := q.1
      exact ⟨h', tk, e, fun b o _ q => k b o q⟩
  · intro D ys h' tk hJn hk hD hDs htk'
    have hk : ∀ b o, s.heap.get? b = some o → h'.get? b = some o := fun b o q => hk b o List.not_mem_nil q
    have hDL : D ≠ L := fun e => Nat.lt_irrefl _ (Nat.lt_of_lt_of_le (e ▸ F.ns.lt) hDs)
    have none0 : h₀.get? D = none := by
      cases q : h₀.get? D with
      | none => rfl
      | some o => exact absurd (Nat.lt_of_lt_of_le (Heap.lt_size (F.keep _ _ q)) hDs) (Nat.lt_irrefl _)
    refine fin D ys h' tk hJn (keepsFr F hk) (fun p hp => ?_) (fun p hp => Nat.lt_of_lt_of_le (Heap.lt_size (N p hp).1) hDs) htk'
    rcases List.mem_cons.mp hp with rfl | hp
    · exact ⟨hD, hDL, none0⟩
    · exact ⟨hk _ _ (N p hp).1, (N p hp).2⟩
end
end Mine
-- part Lb4
namespace Mine
def isB (k : Bool) : Value → Bool
  | .bool b => b == k
  | _ => false
theorem gives_bool (a b : Bool) : MeetsSeq.EqGives (.bool a) (.bool b) (a == b) := fun prog w A E s Q h => SeqAt.EqAt.bool_bool (A := A) (s := s) a b prog w E Q h
theorem any_bools (k : Bool) : ∀ bs : List Bool, ((bs.map Value.bool).toArray.any (isB k)) = bs.any (· == k) := fun bs => by
  rw [List.any_toArray, List.any_map]
  rfl
section
variable {prog : Program} {w : World} {A : Around} {E : Value → Shared → Prop} {s : Shared} {h₀ : Heap} {L D : Addr} {news : List (Addr × Obj)} {Q : Value → Shared → Prop} {vs : List Value} {bs : List Bool} {n : Nat} {k c : Bool}
theorem bools_he (e : vs = bs.map Value.bool) : ∀ y, y ∈ vs.toArray → MeetsSeq.EqGives y (.bool k) (isB k y) := by
  intro y hy
  rw [List.mem_toArray, e] at hy
  obtain ⟨b, _, rfl⟩ := List.mem_map.mp hy
  exact gives_bool b k
theorem in_bools (N : News h₀ L s.heap news) (hm : (D, W.listOf vs.toArray n) ∈ news) (e : vs = bs.map Value.bool) (r : bs.any (· == k) = c) (h : Q (.bool c) s) : wpAny (model prog w) A (compareOp .In (.bool k) (.ref D)) Q E s :=
  SeqInW.in_listW (isB k) (bools_he e) (News.isList N hm) (by rw [e, any_bools, r]; exact h)
theorem notin_bools (N : News h₀ L s.heap news) (hm : (D, W.listOf vs.toArray n) ∈ news) (e : vs = bs.map Value.bool) (r : bs.any (· == k) = c) (h : Q (.bool (!c)) s) : wpAny (model prog w) A (compareOp .NotIn (.bool k) (.ref D)) Q E s :=
  SeqInW.notIn_listW (isB k) (bools_he e) (News.isList N hm) (by rw [e, any_bools, r]; exact h)
end
/-- which stretches of that length have as many b's -/
def hitsL (t : Nat) (x : List Nat) (i : Nat) : List Bool := (List.range (7 - i)).map fun j => decide (t ≤ bAt x j i)
def stretchL (x : List Nat) (i : Nat) : List Str := (List.range (7 - i)).map fun j => mkS ((x.drop j).take (i + 1))
def isOne (l x : List Nat) : Prop := x = l ∨ x = formK l 7
def hitB (l : List Nat) : Bool := let f := formK l 7; (List.range 7).all fun i => [l, f].all fun x => (hitsL (topN l i) x i).any (· == true) && !((hitsL (topN l i + 1) x i).any (· == true))
theorem hit_all : (allW 7).all hitB = true := by decide +kernel
theorem hitOk {l x : List Nat} (hl : l ∈ allW 7) (hx : isOne l x) {i : Nat} (hi : i < 7) : (hitsL (topN l i) x i).any (· == true) = true ∧ (hitsL (topN l i + 1) x i).any (· == true) = false := by
  have h := List.all_eq_true.mp (List.all_eq_true.mp (List.all_eq_true.mp hit_all l hl) i (List.mem_range.mpr hi)) x (by rcases hx with rfl | rfl <;> simp)
  simp only [Bool.and_eq_true, Bool.not_eq_true'] at h
  exact h
def lastL (l : List Nat) (k : Nat) : List Bool := (List.range k).map fun i => decide (topN l i ≤ ((formK l 7).take (i + 1)).count 98)
theorem last_all : (allW 7).all (fun l => !(lastL l 7).any (· == false)) = true := by decide +kernel
theorem lastOk {l : List Nat} (hl : l ∈ allW 7) : (lastL l 7).any (· == false) = false := by
  have h := List.all_eq_true.mp last_all l hl
  simpa using h
theorem one_len {l x : List Nat} (hl : l.length = 7) (hx : isOne l x) : x.length = 7 := by
  rcases hx with rfl | rfl
  · exact hl
  · exact form_len l 7
theorem hits_snoc {t : Nat} {x : List Nat} {i k : Nat} {ys : List Value} (hk : k < 7 - i) (h : ys = ((hitsL t x i).take k).map Value.bool) :
    ys ++ [.bool (decide (t ≤ ((x.drop k).take (i + 1)).count 98))] = ((hitsL t x i).take (k + 1)).map Value.bool := by
  subst h
  have hlen : k < (hitsL t x i).length := by unfold hitsL; rw [List.length_map, List.length_range]; exact hk
  rw [List.take_succ_eq_append_getElem hlen, List.map_append]
  congr 1
  simp [hitsL, bAt]
theorem stretch_at {x : List Nat} {i k : Nat} {y : Str} (h : (stretchL x i)[k]? = some y) : k < 7 - i ∧ y = mkS ((x.drop k).take (i + 1)) := by
  unfold stretchL at h
  obtain ⟨hk, e⟩ := List.getElem?_eq_some_iff.mp h
  rw [List.length_map, List.length_range] at hk
  simp only [List.getElem_map, List.getElem_range] at e
  exact ⟨hk, e.symm⟩
theorem stretch_len (x : List Nat) (i : Nat) : (stretchL x i).length = 7 - i := by unfold stretchL; rw [List.length_map, List.length_range]
theorem hits_end (t : Nat) (x : List Nat) (i : Nat) : (hitsL t x i).take (7 - i) = hitsL t x i := List.take_of_length_le (by unfold hitsL; rw [List.length_map, List.length_range]; exact Nat.le_refl _)
def cutF (x : List Nat) (k j : Int) : Str := Txt.slice (mkS x) (some j) (some (j + k + 1))
theorem cuts_are {x : List Nat} (hl : x.length = 7) {i : Nat} (hi : i < 7) {ys : List Value} (h : StrsAre ys (((rangeInts 0 1 (7 - i)).filter fun _ => true).map (cutF x (0 + (i : Int))))) : StrsAre ys (stretchL x i) := by
  rw [List.filter_eq_self.mpr (fun _ _ => rfl)] at h
  have e : (rangeInts 0 1 (7 - i)).map (cutF x (0 + (i : Int))) = stretchL x i := by
    unfold stretchL rangeInts
    rw [List.map_map]
    refine List.map_congr_left fun j hj => ?_
    have := List.mem_range.mp hj
    show Txt.slice (mkS x) (some (0 + (j : Int) * 1)) (some (0 + (j : Int) * 1 + (0 + (i : Int)) + 1)) = _
    have e1 : (0 + (j : Int) * 1) = (j : Int) := by omega
    have e2 : ((j : Int) + (0 + (i : Int)) + 1) = ((j + i + 1 : Nat) : Int) := by omega
    rw [e1, e2, slice_mid (by omega) (by omega)]
    have : j + i + 1 - j = i + 1 := by omega
    rw [this]
  rw [e] at h
  exact h
theorem tops_at {l : List Nat} {vs : List Value} (h : IntsAre vs (topsK l 7)) {i : Nat} (hi : i < 7) : ∃ t, vs[(0 + (i : Int)).toNat]? = some (.int (topN l i : Nat) t) := by
  have hlen : i < vs.length := by rw [h.length, topsK_len]; exact hi
  have e : (0 + (i : Int)).toNat = i := by omega
  rw [e]
  obtain ⟨t, et⟩ := IntsAre.int_at h i vs[i] (List.getElem?_eq_getElem hlen)
  refine ⟨t, ?_⟩
  rw [List.getElem?_eq_getElem hlen, et]
  congr 2
  simp [topsK, List.getD_eq_getElem?_getD, hi]
theorem last_snoc {l : List Nat} {k : Nat} {ys : List Value} (h : ys = (lastL l k).map Value.bool) : ys ++ [.bool (decide (topN l k ≤ ((formK l 7).take (k + 1)).count 98))] = (lastL l (k + 1)).map Value.bool := by
  subst h
  unfold lastL
  rw [List.range_succ, List.map_append, List.map_append]; rfl
theorem some_all : (List.range 9).all (fun t => decide (Str.ofString "..." ++ Txt.mul (Str.ofString "b...") (t : Int) = dotB t) && decide ((Txt.mul (Str.ofString "b...") (t : Int)).length ≤ 40)) = true := by decide +kernel
theorem some_is {t : Nat} (h : t ≤ 8) : Str.ofString "..." ++ Txt.mul (Str.ofString "b...") (t : Int) = dotB t ∧ (Txt.mul (Str.ofString "b...") (t : Int)).length ≤ 40 := by
  have := List.all_eq_true.mp some_all t (List.mem_range.mpr (by omega))
  simpa using this
theorem more_all : (List.range 9).all (fun t => decide (dotB t ++ Str.ofString "b..." = dotB (t + 1)) && decide ((dotB t).length ≤ 40)) = true := by decide +kernel
theorem more_is {t : Nat} (h : t ≤ 8) : dotB t ++ Str.ofString "b..." = dotB (t + 1) ∧ (dotB t).length ≤ 40 := by
  have := List.all_eq_true.mp more_all t (List.mem_range.mpr (by omega))
  simpa using this
section
variable {prog : Program} {w : World} {A : Around} {E : Value → Shared → Prop} {s : Shared} {Q : Value → Shared → Prop} {t u : Tok} {n : Nat}
theorem mul_B (hn : n ≤ 8) (h : ∀ t' tk, Q (.str (Txt.mul (Str.ofString "b...") (n : Int)) t') { s with toks := tk }) : wpAny (model prog w) A (binaryOp .Mult (.str (Str.ofString "b...") t) (.int (n : Int) u)) Q E s :=
  SB.mul (mulOk_of 16 1048576 (by decide) (by omega) (by omega) (by decide) (by decide)) h
theorem add_B (hn : n ≤ 8) (h : ∀ t' tk, Q (.str (dotB n) t') { s with toks := tk }) : wpAny (model prog w) A (binaryOp .Add (.str (Str.ofString "...") t) (.str (Txt.mul (Str.ofString "b...") (n : Int)) u)) Q E s := by
  obtain ⟨e, z⟩ := some_is hn
  refine add_T (fun t' k _ => ?_) (by rw [show (Str.ofString "...").length = 3 by decide]; omega)
  rw [e]; exact h _ _
theorem more_B (hn : n ≤ 8) (h : ∀ t' tk, Q (.str (dotB (n + 1)) t') { s with toks := tk }) : wpAny (model prog w) A (binaryOp .Add (.str (dotB n) t) (.str (Str.ofString "b...") u)) Q E s := by
  obtain ⟨e, z⟩ := more_is hn
  refine add_T (fun t' k _ => ?_) (by rw [show (Str.ofString "b...").length = 4 by decide]; omega)
  rw [e]; exact h _ _
end
end Mine
-- part Lb5
namespace Mine
def AllNeA (D : Addr) : List (Addr × Obj) → Prop
  | [] => True
  | p :: l => p.1 ≠ D ∧ AllNeA D l
theorem allNeA_of {D : Addr} : ∀ {l : List (Addr × Obj)}, (∀ p ∈ l, p.1 ≠ D) → AllNeA D l
  | [], _ => trivial
  | p :: l, h => ⟨h p (List.mem_cons_self ..), allNeA_of fun q hq => h q (List.mem_cons_of_mem _ hq)⟩
/-- what the locals hold is not asked any more -/
theorem fr_gen {h₀ h : Heap} {L : Addr} {m : Str → Option Value} (F : Fr h₀ L h m) : ∃ m, Fr h₀ L h m := ⟨m, F⟩
section
variable {prog : Program} {w : World} {A : Around} {E : Value → Shared → Prop} {s : Shared} {h₀ : Heap} {L D : Addr} {news : List (Addr × Obj)} {Q : Value → Shared → Prop} {vs : List Value} {bs : List Bool} {n : Nat}
theorem notin_TF (N : News h₀ L s.heap news) (hm : (D, W.listOf vs.toArray n) ∈ news) (e : vs = bs.map Value.bool) (r : bs.any (· == true) = true) (h : Q (.bool false) s) : wpAny (model prog w) A (compareOp .NotIn (.bool true) (.ref D)) Q E s :=
  notin_bools (c := true) N hm e r h
theorem in_TF (N : News h₀ L s.heap news) (hm : (D, W.listOf vs.toArray n) ∈ news) (e : vs = bs.map Value.bool) (r : bs.any (· == true) = false) (h : Q (.bool false) s) : wpAny (model prog w) A (compareOp .In (.bool true) (.ref D)) Q E s :=
  in_bools (c := false) N hm e r h
theorem notin_FT (N : News h₀ L s.heap news) (hm : (D, W.listOf vs.toArray n) ∈ news) (e : vs = bs.map Value.bool) (r : bs.any (· == false) = false) (h : Q (.bool true) s) : wpAny (model prog w) A (compareOp .NotIn (.bool false) (.ref D)) Q E s :=
  notin_bools (c := false) N hm e r h
end
section
variable {prog : Program} {w : World} {A : Around} {E : Value → Shared → Prop} {s : Shared} {Q : Value → Shared → Prop} {t u : Tok} {n : Nat}
theorem mul_B1 (hn : n ≤ 8) (ht : 1 ≤ s.toks) (h : ∀ t' tk, 1 ≤ tk → Q (.str (Txt.mul (Str.ofString "b...") (n : Int)) t') { s with toks := tk }) : wpAny (model prog w) A (binaryOp .Mult (.str (Str.ofString "b...") t) (.int (n : Int) u)) Q E s :=
  with_toksQ ht (mul_B hn fun t' tk hk => h t' tk hk)
theorem add_B1 (hn : n ≤ 8) (ht : 1 ≤ s.toks) (h : ∀ t' tk, 1 ≤ tk → Q (.str (dotB n) t') { s with toks := tk }) : wpAny (model prog w) A (binaryOp .Add (.str (Str.ofString "...") t) (.str (Txt.mul (Str.ofString "b...") (n : Int)) u)) Q E s :=
  with_toksQ ht (add_B hn fun t' tk hk => h t' tk hk)
end
end Mine
-- part Kb2
namespace Mine
section
theorem off_Kb2 : True := by w_top off; trivial
local macro_rules | `(tactic| walk_at "subscriptTail List cons Slice ref ref") => `(tactic| ((with_reducible rename Fr _ _ _ _ => F'); (with_reducible rename News _ _ _ _ => N'); (refine' slice_from_I (ns := [1, 0, 0, 1, 1, 0, 1]) (s := ⟨_, _, _, _, _⟩) F' N' (by k_mem) (by exact .cons _ _ (.cons _ _ (.cons _ _ (.cons _ _ (.cons _ _ (.cons _ _ (.cons _ _ .nil))))))) (by omega) (by exact Nat.le_of_ble_eq_true rfl) ?_); intro h' D' vs' F' N' i9 l1; (try k_lt l1)))
local macro_rules | `(tactic| walk_at "binaryOp Add ref ref") => `(tactic| (k_here; k_dflt (refine' add_I (by k_asm) (by k_asm) (by k_mem) (by k_mem) (by (first | with_reducible assumption | exact .cons _ _ .nil)) (by (first | with_reducible assumption | exact .cons _ _ .nil)) (by ((simp only [List.length_take, List.length_drop, List.length_cons, List.length_nil]); omega)) ?_); intro D' h' F' N' i' l1; (have l9 := l1); (try k_lt l1)))
local macro_rules | `(tactic| walk_at "pyIter ref") => `(tactic| ((with_reducible show wpAny _ _ (pyIter _) (CompPost _ _ _ _ _ _ _ _ _) _ _); k_here; refine Hold.stop ?_))
local macro_rules | `(tactic| walk_at "call builtin:str.join") => `(tactic| (k_here; (refine' join_list (by with_reducible assumption) (by with_reducible assumption) ?hz ?_); (case hz => (rw [lets_len]; (simp only [List.length_map, List.length_append, List.length_take, List.length_drop, List.length_cons, List.length_nil]); (show _ + _ * 0 ≤ 16777216); omega)); intro t' k'; (with_reducible rename Txt.join _ _ = mkS _ => el9); rw [el9]))
local macro_rules | `(tactic| walk_at "eval ListComp") => `(tactic| ((with_reducible show wpAny _ _ (eval (Expr.ListComp _ [Comprehension.mk _ (Expr.Call (Expr.Name (Str.ofString "range") _) _ _ _) _ _] _ _) _) _ _ _); k_here; refine Hold.stop ?_))
local macro_rules | `(tactic| walk_at "subscriptTail Name Slice str ref") => `(tactic| ((with_reducible show wpAny _ _ (subscriptTail _ (Expr.Slice none (some _) none _) _ _) _ _ _); (with_reducible rename InElt _ _ => E'); (with_reducible rename Fr _ _ _ _ => F'); (with_reducible rename News _ _ _ _ => N'); (refine slice_E_ns (s := ⟨_, _, _, _, _⟩) E' F' N' (by omega) ?_); intro _ _ _ _ _ _ _))
local macro_rules | `(tactic| walk_at "call ref") => `(tactic| ((with_reducible show wpAny _ _ (call (Value.ref 133) _) _ _ _); k_here; refine Hold.stop ?_))
local macro_rules | `(tactic| walk_at "call ref cons cons") => `(tactic| ((with_reducible show wpAny _ _ (call (Value.ref 133) _) _ _ _); k_here; refine Hold.stop ?_))
local macro_rules | `(tactic| walk_at "exec For Name Call cons nil") => `(tactic| (k_here; (rename Fr _ _ _ _ => lF'); (with_unfolding_all refine' For_invTF lF' ?h1 ?h2); (case h2 => exact fun _ => rfl)))
local macro_rules | `(tactic| walk_at "exec For Name List cons nil") => `(tactic| (k_here; (rename Fr _ _ _ _ => lF'); (with_unfolding_all refine' For_invTF lF' ?h1 ?h2); (case h2 => exact fun _ => rfl)))
structure InnerB : Prop where
local macro_rules | `(tactic| walk_at "exec For Name Call cons nil") => `(tactic| ((with_reducible rename InnerB => hib9); k_here; refine Hold.stop ?_))
local macro_rules | `(tactic| walk_at "pyIter ref") => `(tactic| ((with_reducible show wpAny _ _ (pyIter (Value.ref _)) (fun it s₂ => LoopAtT _ _ _ _ _ _ _ _ _ it s₂) _ _); k_here; refine Hold.stop ?_))
abbrev cells7 {h₀ h : Heap} {L : Addr} {p0 p1 p2 p3 c1 c2 c3 c4 c5 c6 c7 : Addr × Obj} (_ : News h₀ L h [p0, p1, p2, p3, c1, c2, c3, c4, c5, c6, c7]) : List (Addr × Obj) := [c1, c2, c3, c4, c5, c6, c7]
structure A2 where
  tvs : List Value
  tcap : Nat
  oF : Obj
  oK : Obj
  oC : Obj
abbrev ledA {h₀ h : Heap} {L : Addr} {t da db c7 c6 c5 c4 c3 c2 c1 : Addr × Obj} {tl : List (Addr × Obj)} (_ : News h₀ L h (t :: da :: db :: c7 :: c6 :: c5 :: c4 :: c3 :: c2 :: c1 :: tl)) (c : A2) : List (Addr × Obj) :=
  (t.1, W.listOf c.tvs.toArray c.tcap) :: da :: db :: c7 :: c6 :: (c5.1, c.oC) :: (c4.1, c.oK) :: c3 :: (c2.1, c.oF) :: c1 :: tl
abbrev startA {h₀ h : Heap} {L : Addr} {t : Addr} {tvs : List Value} {n : Nat} {da db c7 c6 c5 c4 c3 c2 c1 : Addr × Obj} {tl : List (Addr × Obj)} (_ : News h₀ L h ((t, W.listOf tvs.toArray n) :: da :: db :: c7 :: c6 :: c5 :: c4 :: c3 :: c2 :: c1 :: tl)) : A2 := ⟨tvs, n, c2.2, c4.2, c5.2⟩
abbrev adrA {h₀ h : Heap} {L : Addr} {t da db c7 c6 c5 c4 c3 c2 c1 : Addr × Obj} {tl : List (Addr × Obj)} (_ : News h₀ L h (t :: da :: db :: c7 :: c6 :: c5 :: c4 :: c3 :: c2 :: c1 :: tl)) : List Addr := [t.1, c7.1, c6.1, c5.1, c4.1, c3.1, c2.1, c1.1]
structure AInv (l : List Nat) (i : Nat) (c : A2) : Prop where
  tp : IntsAre c.tvs (topsK l i)
  fm : ∃ t, c.oF.data = .cell (some (.str (mkS (formK l i)) t))
  ck : ∃ v, c.oK.data = .cell v
  cc : ∃ v, c.oC.data = .cell v
structure B2 where
  oS : Obj
  oO : Obj
  oK : Obj
structure B3 where
  oS : Obj
  oK : Obj
abbrev ledB {h₀ h : Heap} {L : Addr} {d t c7 c6 c4 c3 c2 c1 : Addr × Obj} (_ : News h₀ L h [d, t, c7, c6, c4, c3, c2, c1]) (c : B2) : List (Addr × Obj) := [t, (c7.1, c.oS), (c6.1, c.oO), (c4.1, c.oK), c3, c2, c1]
abbrev startB {h₀ h : Heap} {L : Addr} {d t c7 c6 c4 c3 c2 c1 : Addr × Obj} (_ : News h₀ L h [d, t, c7, c6, c4, c3, c2, c1]) : B2 := ⟨c7.2, c6.2, c4.2⟩
abbrev adrB2 {h₀ h : Heap} {L : Addr} {d t c7 c6 c4 c3 c2 c1 : Addr × Obj} (_ : News h₀ L h [d, t, c7, c6, c4, c3, c2, c1]) : List Addr := [t.1, c7.1, c6.1, c4.1, c3.1, c2.1, c1.1]
abbrev ledC {h₀ h : Heap} {L : Addr} {t c7 c6 c4 c3 c2 c1 : Addr × Obj} {own : List (Addr × Obj)} (_ : News h₀ L h (t :: c7 :: c6 :: c4 :: c3 :: c2 :: c1 :: own)) (c : B3) : List (Addr × Obj) := t :: (c7.1, c.oS) :: c6 :: (c4.1, c.oK) :: c3 :: c2 :: c1 :: own
abbrev startC {h₀ h : Heap} {L : Addr} {t c7 c6 c4 c3 c2 c1 : Addr × Obj} {own : List (Addr × Obj)} (_ : News h₀ L h (t :: c7 :: c6 :: c4 :: c3 :: c2 :: c1 :: own)) : B3 := ⟨c7.2, c4.2⟩
abbrev adrC {h₀ h : Heap} {L : Addr} {t c7 c6 c4 c3 c2 c1 : Addr × Obj} {own : List (Addr × Obj)} (_ : News h₀ L h (t :: c7 :: c6 :: c4 :: c3 :: c2 :: c1 :: own)) : List Addr := [t.1, c7.1, c6.1, c4.1, c3.1, c2.1, c1.1]
abbrev startD {h₀ h : Heap} {L : Addr} {t c7 c6 c4 : Addr × Obj} {tl : List (Addr × Obj)} (_ : News h₀ L h (t :: c7 :: c6 :: c4 :: tl)) : B2 := ⟨c7.2, c6.2, c4.2⟩
structure BInv (c : B2) : Prop where
  cs : ∃ v, c.oS.data = .cell v
  co : ∃ v, c.oO.data = .cell v
  ck : ∃ v, c.oK.data = .cell v
structure CInv (c : B3) : Prop where
  cs : ∃ v, c.oS.data = .cell v
  ck : ∃ v, c.oK.data = .cell v
theorem two_at {a b v : Value} {i : Nat} (h : [a, b][i]? = some v) : v = a ∨ v = b := by
  match i, h with
  | 0, h => exact .inl (Option.some.inj h).symm
  | 1, h => exact .inr (Option.some.inj h).symm
theorem one_of {l : List Nat} {t u : Tok} {i : Nat} {v : Value} (h : [Value.str (mkS l) t, Value.str (mkS (formK l 7)) u][i]? = some v) : ∃ x t', v = .str (mkS x) t' ∧ isOne l x := by
  rcases two_at h with rfl | rfl
  · exact ⟨_, _, rfl, .inl rfl⟩
  · exact ⟨_, _, rfl, .inr rfl⟩
local macro_rules | `(tactic| walk_at "subscriptTail Name Slice str ref") => `(tactic| ((with_reducible show wpAny _ _ (subscriptTail _ (Expr.Slice (some _) (some _) none _) _ _) _ _ _); (with_reducible rename InElt _ _ => E'); (with_reducible rename Fr _ _ _ _ => F'); (with_reducible rename News _ _ _ _ => N'); (refine slice_E_ss (s := ⟨_, _, _, _, _⟩) E' F' N' (by omega) ?_); intro _ _ _ _ _ _ _))
local macro_rules | `(tactic| k_ne) => `(tactic| (refine neN ?_; (try dsimp only); first | with_reducible assumption | exact Ne.symm (by with_reducible assumption) | omega))
local macro_rules | `(tactic| walk_at "subscriptTail Name Name ref int") => `(tactic| (k_here; k_dflt (refine' item_L (by k_asm) (by k_mem) (by omega) (by omega) (by with_reducible assumption) ?_ (by with_unfolding_all rfl); k_whole)))
local macro_rules | `(tactic| walk_at "exec If Compare cons nil") => `(tactic| ((fail_if_success (with_reducible rename Passed => hh)); k_here; refine Hold.stop ?_))
local macro_rules | `(tactic| walk_at "call builtin:max") => `(tactic| (k_here; (with_reducible show wpAny _ _ (call (Value.builtin _) [Value.ref _]) _ _ _); k_dflt (refine' max_C (by k_asm) (by k_asm) (by k_mem) (by with_reducible assumption) (by with_reducible assumption) (by rfl) ?_); intro h' t' tk' F' N'))
local macro_rules | `(tactic| walk_at "call type:tuple") => `(tactic| (k_here; (with_reducible show wpAny _ _ (call (Value.type _) [Value.ref _]) _ _ _); k_dflt (refine' tuple_I (by k_asm) (by k_asm) (by k_mem) (by with_reducible assumption) (by omega) ?_); intro D' h' F' N' l1; (have l9 := l1); (try k_lt l1)))
local macro_rules | `(tactic| walk_at "compareOp NotEq ref ref") => `(tactic| (k_here; k_dflt (refine' ne_same (by k_asm) (by k_mem) (by k_mem) (by with_reducible assumption) (by k_mem) (by k_mem) (by with_reducible assumption) (by exact Nat.le_of_ble_eq_true rfl) (by with_reducible assumption) (by with_reducible assumption) ?_)))
local macro_rules | `(tactic| walk_at "newTuple") => `(tactic| (k_here; k_dflt (refine' kup_newTuple (by k_asm) (by k_asm) ?_ (by kmk_size)); intro D' h' F' N' l1; (try k_lt l1)))
local macro_rules | `(tactic| walk_at "call builtin:len cons nil") => `(tactic| (k_here; (with_reducible show wpAny _ _ (call (Value.builtin "len") [Value.ref _]) _ _ _); k_dflt (refine' len_TI (by k_asm) (by k_mem) (by with_reducible assumption) (by with_reducible assumption) (by omega) ?_); intro t' tk'))
local macro_rules | `(tactic| walk_at "call builtin:max cons nil") => `(tactic| (k_here; (with_reducible show wpAny _ _ (call (Value.builtin "max") [Value.int _ _, Value.int _ _]) _ _ _); k_dflt (refine' max_run (by with_reducible assumption) (by omega) (by rfl) (by k_asm) (by k_asm) ?_); intro h' tk' F' N'))
local macro_rules | `(tactic| walk_at "callWith ref cons nil") => `(tactic| (k_here; k_dflt (refine' callWith_K0 ?k1 ?k2 ?_); (case k1 => exact Frag.In.keeps (by with_reducible assumption) (Fr.keep (by with_reducible assumption))); (case k2 => k_is); k_whole))
local macro_rules | `(tactic| walk_at "call type:set cons nil") => `(tactic| (k_here; k_dflt (refine' set_C (by k_asm) (by k_asm) (by k_mem) (by with_reducible assumption) (by rfl) (by with_reducible assumption) (by with_reducible assumption) ?_); intro D' h' tk' es' ep' F' N' l1 s9; (try k_lt l1)))
local macro_rules | `(tactic| walk_at "call builtin:sorted cons nil") => `(tactic| (k_here; k_dflt (refine' sorted_C (by k_asm) (by k_asm) (by k_mem) (by with_reducible assumption) (by rfl) (by with_reducible assumption) (by with_reducible assumption) ?_); intro D' c' h' tk' vs' F' N' l1 i9; (try k_lt l1)))
local macro_rules | `(tactic| walk_at "call type:list cons nil") => `(tactic| (k_here; (with_reducible show wpAny _ _ (call (Value.type _) [Value.ref _]) _ _ _); k_dflt (refine' list_R (by k_asm) (by k_asm) (by rfl) (by with_reducible assumption) (by exact small_one (by omega) (by omega) (by omega) (by omega)) (by exact rangeSize_nat _ _) (by omega) ?_); intro D' c' h' tk' vs' F' N' l1 i9; (try k_lt l1)))
local macro_rules | `(tactic| walk_at "loadName") => `(tactic| (k_here; (with_reducible show wpAny _ _ (loadName (envOfC _ _ _ _ _) _) _ _ _); k_dflt (refine' ldnCN (by k_asm) (by with_unfolding_all rfl) (by k_mem) (by with_reducible assumption) ?_)))
local macro_rules | `(tactic| walk_at "compareOp NotEq ref ref") => `(tactic| (k_here; k_dflt (refine' ne_ints (by k_asm) (by k_mem) (by k_mem) (by with_reducible assumption) (by with_reducible assumption) (by exact rng_C (by with_reducible assumption) (by with_reducible assumption) (by with_reducible assumption) rfl rfl) (by exact Nat.le_of_ble_eq_true rfl) ?_)))
local macro_rules | `(tactic| walk_at "compareOp NotIn int ref") => `(tactic| (k_here; k_dflt (refine' notin_C (by k_asm) (by k_mem) (by rfl) (by with_reducible assumption) (by with_reducible assumption) (by rfl) ?_)))
local macro_rules | `(tactic| walk_at "subscriptTail Constant str BinOp str int") => `(tactic| (k_here; (with_reducible show wpAny _ _ (subscriptTail _ _ (Value.str (Str.ofString "ab") _) (Value.int (_ - Txt.count _ _) _)) _ _ _); (refine' item_C (by with_reducible assumption) (by with_reducible assumption) (by rfl) ?_); intro t' tk'))
local macro_rules | `(tactic| walk_at "inplaceOp Add str str") => `(tactic| (k_here; (with_reducible show wpAny _ _ (inplaceOp Operator.Add (Value.str (mkS (formK _ _)) _) _) _ _ _); (refine' iadd_C (by with_reducible assumption) ?_); intro t' tk'))
local macro_rules | `(tactic| walk_at "storeName str") => `(tactic| ((with_reducible show wpAny _ _ (storeName _ (Str.ofString "form") _) _ _ _); k_here; (fail_if_success (with_reducible show wpAny _ _ (storeName _ _ (Value.str (Str.ofString "") _)) _ _ _)); refine Hold.stop ?_))
local macro_rules | `(tactic| walk_at "call builtin:list.append cons nil") => `(tactic| (k_here; refine Hold.stop ?_))
local macro_rules | `(tactic| walk_at "binaryOp Mult str int") => `(tactic| (k_here; (refine' mul_B1 (by with_reducible assumption) (by (first | with_reducible assumption | (dsimp only; omega))) ?_); intro t' tk' ht9'))
local macro_rules | `(tactic| walk_at "binaryOp Add str str") => `(tactic| (k_here; (with_reducible show wpAny _ _ (binaryOp _ _ (Value.str (Txt.mul _ _) _)) _ _ _); (refine' add_B1 (by with_reducible assumption) (by (first | with_reducible assumption | (dsimp only; omega))) ?_); intro t' tk' ht9'))
local macro_rules | `(tactic| walk_at "binaryOp Add str str") => `(tactic| (k_here; (with_reducible show wpAny _ _ (binaryOp _ (Value.str (dotB _) _) _) _ _ _); (refine' more_B (by with_reducible assumption) ?_); intro t' tk'))
local macro_rules | `(tactic| walk_at "exec Assign cons ListComp") => `(tactic| ((with_reducible show wpAny _ _ (exec (Stmt.Assign [Expr.Name (Str.ofString "stretches") _] _ _) _) _ _ _); k_here; refine Hold.stop ?_))
local macro_rules | `(tactic| walk_at "eval ListComp Call cons") => `(tactic| ((with_reducible show wpAny _ _ (eval (Expr.ListComp (Expr.Call (Expr.Name (Str.ofString "_ellipsis_match") _) _ _ _) _ _ _) _) _ _ _); k_here; refine Hold.stop ?_))
local macro_rules | `(tactic| walk_at "eval ListComp") => `(tactic| ((with_reducible show wpAny _ _ (eval (Expr.ListComp (Expr.Call (Expr.Name (Str.ofString "_ellipsis_match") _) _ _ _) _ _ _) _) _ _ _); k_here; refine Hold.stop ?_))
local macro_rules | `(tactic| walk_at "call ref cons cons") => `(tactic| ((with_reducible show wpAny _ _ (call (Value.ref 111) _) _ _ _); k_here; refine Hold.stop ?_))
local macro_rules | `(tactic| walk_at "call ref") => `(tactic| ((with_reducible show wpAny _ _ (call (Value.ref 111) _) _ _ _); k_here; refine Hold.stop ?_))
local macro_rules | `(tactic| walk_at "compareOp NotIn bool ref") => `(tactic| (k_here; first | (k_dflt (refine' notin_TF (by k_asm) (by k_mem) (by with_reducible assumption) (by with_reducible assumption) ?_)) | (k_dflt (refine' notin_FT (by k_asm) (by k_mem) (by with_reducible assumption) (by with_reducible assumption) ?_))))
local macro_rules | `(tactic| walk_at "compareOp In bool ref") => `(tactic| (k_here; k_dflt (refine' in_TF (by k_asm) (by k_mem) (by with_reducible assumption) (by with_reducible assumption) ?_)))
structure RangeMark : Prop where
local macro_rules | `(tactic| walk_at "call type:range cons nil") => `(tactic| ((with_reducible rename RangeMark => hrm9); k_here; refine Hold.stop ?_))
theorem law2 : PySem.Challenge.rw_pg0197_02.Holds := hd02 (by
  k_go0
  (all_goals try k_fold)
  k_steps
  refine Hold.go ?_
  (rename Fr _ _ _ _ => F1)
  (rename News _ _ _ _ => N1)
  (rename IntsAre _ _ => i1)
  refine' srcC_listDW (pz := fun _ => true) (d := fun v => PyData.str (let1 v)) rfl (News.isList N1 (.head _)) (IntsAre.areOf i1) F1 N1 (fun _ _ _ _ _ _ _ _ _ _ _ => wpAny_pure ⟨rfl, ⟨_, _, rfl, fun _ _ e => e⟩⟩) ?g2 ?g3 ?hsz
  case hsz => (simp only [List.length_append, List.length_take, List.length_drop, List.length_cons, List.length_nil]; rw [sizeLine_eq]; omega)
  case g2 =>
    intro C a v s₂ m₂ E' ha hv _ hns hm ht
    obtain ⟨tv, e'⟩ := ItemKind.int_is hv
    subst e'
    k_steps
    · exact .str _ _
    · exact ⟨_, _, rfl, fun _ _ e => e⟩
  case g3 =>
    intro D ys h' tk F' N' q1 q2 q3 q4
    obtain ⟨l, hl, el⟩ := word7' i1
    have hl7 : (mkS l).length = 7 := by
      show l.toArray.size = 7
      rw [List.size_toArray, (allW_len 7 l hl).1]
    have S1 := strs_comp q4
    k_steps
    (rename Fr _ _ _ _ => Fa)
    obtain ⟨mb, Fa⟩ := fr_gen Fa
    (rename News _ _ _ _ => Na)
    have hlen : l.length = 7 := (allW_len 7 l hl).1
    have hlet := (allW_len 7 l hl).2
    have eb : Str.ofString "b" = mkS [98] := by decide
    have ea : Str.ofString "a" = mkS [97] := by decide
    have e0 : Str.ofString "" = mkS [] := by decide
    have N0 : News _ _ _ (cells7 Na) := news_sub Na (.cons _ (.cons _ (.cons _ (.cons _ (List.Sublist.refl _)))))
    dsimp only [cells7] at N0
    clear Na
    refine Hold.go ?_
    refine' pure_use (leadsB _ l _ _ hl) ?B Fa ?X ?T N0 ?h1 ?h2 ?hf ?hk ?hd ?hu ?_
    (case B => k_asm)
    (case X => k_asm)
    (case T => k_asm)
    (case h1 => rfl)
    (case h2 => rfl)
    (case hf => rfl)
    (case hk => rfl)
    (case hd => exact Nat.le_of_ble_eq_true rfl)
    (case hu => exact Nat.le_of_ble_eq_true rfl)
    intro v' h' tk' F' N' st' R'
    obtain ⟨DA, lvA, capA, accA, e9, MA, LA⟩ := R'
    subst e9
    have offA := made_off N0 MA
    have neA := made_ne N0 MA (.head _)
    have NA := MadeN.onto MA Fa N0 st'
    clear N' N0
    simp only [List.cons_append] at NA
    have NA2 := mid_tail NA
    dsimp only [midTail] at NA2
    clear NA
    simp only [List.map_cons, List.map_nil] at offA
    replace neA := allNeA_of neA
    simp only [AllNeA, and_true] at neA
    obtain ⟨na1, na2, na3, na4, na5, na6, na7⟩ := neA
    k_steps
    (rename Fr _ _ _ _ => Fb)
    (rename News _ _ _ _ => Nb)
    refine Hold.go ?_
    refine' pure_use (leadsA _ l _ _ hl) ?B Fb ?X ?T Nb ?h1 ?h2 ?hf ?hk ?hd ?hu ?_
    (case B => k_asm)
    (case X => k_asm)
    (case T => k_asm)
    (case h1 => rfl)
    (case h2 => rfl)
    (case hf => rfl)
    (case hk => rfl)
    (case hd => exact Nat.le_of_ble_eq_true rfl)
    (case hu => exact Nat.le_of_ble_eq_true rfl)
    intro v' h' tk' F' N' st' R'
    obtain ⟨DB, lvB, capB, accB, e9, MB, LB⟩ := R'
    subst e9
    have offB := made_off Nb MB
    have neB := made_ne Nb MB (.head _)
    have NB := MadeN.onto MB Fb Nb st'
    clear N' Nb
    simp only [List.cons_append] at NB
    have NB2 := mid_tail2 NB
    dsimp only [midTail2] at NB2
    clear NB
    simp only [List.map_cons, List.map_nil] at offB
    replace neB := allNeA_of neB
    simp only [AllNeA, and_true] at neB
    obtain ⟨nb0, nb1, nb2, nb3, nb4, nb5, nb6, nb7, _⟩ := neB
    have offT : OwnOff (accA ++ accB) _ := off_app offA (off_sub offB (by intro b hb; simp only [List.mem_cons, List.mem_nil_iff, or_false] at hb ⊢; grind))
    k_steps
    (rename _ ∧ _ ∧ _ ∧ _ ∧ _ ∧ _ ∧ _ ∧ _ ∧ _ ∧ AllLt _ _ => lT)
    obtain ⟨lT1, lT2, lT3, lT4, lT5, lT6, lT7, lT8, lT9, lT10⟩ := lT
    (rename Fr _ _ _ _ => Fq)
    (rename News _ _ _ _ => Nq)
    refine Hold.go ?_
    refine' iterT_range (σ := A2) (ledA Nq) (fun _ => []) [Str.ofString "top", Str.ofString "least"] (AInv l) (startA Nq) rfl (by with_reducible assumption) (by decide) (n := 7) (by decide) Fq Nq (fun _ hp => nomatch hp) ?hi ?turn ?done
    case hi =>
      refine ⟨.nil, ⟨?tk9, ?fm9⟩, ⟨_, by with_reducible assumption⟩, ⟨_, by with_reducible assumption⟩⟩
      case fm9 =>
        rw [show formK l 0 = [] from rfl, ← e0]
        with_reducible assumption
    case turn =>
      intro i t c u s₁ own I oI hi hj ho hm hI F2 N2
      obtain ⟨j1, ⟨tf, j2⟩, ⟨vk, j3⟩, ⟨vc, j4⟩⟩ := hj
      have hoD : OwnOff (accA ++ accB ++ own) (adrA Nq) := by
        refine off_app (off_cons offT fun p hp => Nat.ne_of_lt ((lt_all lT10) p hp)) ?_
        intro p hp b hb
        rw [hI p hp]
        replace ho := allNe_of ho
        dsimp only [ledA] at ho; simp only [AllNe] at ho
        obtain ⟨o1, o2, o3, o4, o5, o6, o7, o8, o9, o10, _⟩ := ho
        simp only [adrA, List.mem_cons, List.mem_nil_iff, or_false] at hb
        rcases hb with rfl | rfl | rfl | rfl | rfl | rfl | rfl | rfl <;> (refine neN (Ne.symm ?_); with_reducible assumption)
      dsimp only [adrA] at hoD
      dsimp only [kstB, ledA] at F2 N2
      simp only [List.cons_append] at N2
      k_steps
      -- counts
      (rename Fr _ _ _ _ => Fx)
      refine Hold.go ?_
      refine' comp_range (fun _ => true) (fun j => PyData.int (cntF l (0 + (i : Int)) j)) Fx ?hh ?hclos ?hcell ?hkind ?hnames ?hx ?hs ?_
      (case hh => with_unfolding_all rfl)
      (case hclos => with_unfolding_all rfl)
      (case hcell => decide)
      (case hkind => with_unfolding_all rfl)
      (case hnames => decide)
      (case hx => with_unfolding_all rfl)
      (case hs => intro _; with_unfolding_all rfl)
      k_steps
      (rename Fr _ _ _ _ => Fy)
      (rename News _ _ _ _ => Ny)
      refine Hold.go ⟨_, _, _, _, _, _, _, _, 7 - i, rfl, by with_reducible assumption, small7 hi, size7 hi, by rw [sizeLine_eq]; omega, Fy, Ny, ?_, ?_, ?_⟩
      · intro C a v s₂ m₂ E' hC ha hv hns hm2 hk
        exact wpAny_pure ⟨rfl, ⟨_, _, rfl, fun _ _ e => e⟩⟩
      · intro C a v s₂ m₂ E' hC ha hv hpz hns hm2 hk
        obtain ⟨tv, e'⟩ := ItemKind.int_is hv
        subst e'
        k_steps
        · exact .int _ _
        · (rename InElt _ _ => E9); exact ⟨_, _, rfl, E9⟩
      · intro D ys h' tk F' N' q1 q2 q3 q4
        obtain ⟨nD, ND⟩ := comp_news F' N' q1 q2 q3
        have nD9 := allNeA_of (fun p hp => q3.2 p hp)
        simp only [AllNeA] at nD9
        obtain ⟨nd0, nd1, nd2, nd3, nd4, nd5, nd6, nd7, nd8, nd9, _⟩ := nD9
        have i5 : IntsAre ys (cntsI l i) := cnts_is hlen hi (ints_comp q4)
        clear N' q1 q2 q3 q4
        k_steps
        (rename News _ _ _ _ => ND)
        (rename Fr _ _ _ _ => FD)
        obtain ⟨xA, dxA, tnA, tcA, vsA, kA, geA, memA, iA⟩ := LA.2 i hi
        obtain ⟨xB, dxB, tnB, tcB, vsB, kB, geB, memB, iB⟩ := LB.2 i hi
        rw [show i = (0 + (i : Int)).toNat by omega] at geA geB
        obtain ⟨oAt1, oAt2, oAt3, oAt4⟩ := led_off (fun p hp => List.mem_append_left _ (memA p hp)) hoD (.head _)
        obtain ⟨oAf1, oAf2, oAf3, oAf4⟩ := led_off (fun p hp => List.mem_append_left _ (memA p hp)) hoD (.tail _ (.tail _ (.tail _ (.tail _ (.tail _ (.tail _ (.head _)))))))
        obtain ⟨oBt1, oBt2, oBt3, oBt4⟩ := led_off (fun p hp => List.mem_append_right _ (memB p hp)) hoD (.head _)
        obtain ⟨oBf1, oBf2, oBf3, oBf4⟩ := led_off (fun p hp => List.mem_append_right _ (memB p hp)) hoD (.tail _ (.tail _ (.tail _ (.tail _ (.tail _ (.tail _ (.head _)))))))
        have ND := add_led ND (l := wsLed _ 100 xB dxB tnB tcB vsB _ _ kB) (fun p hp => in_tail (.inl (List.mem_append_right _ (memB p hp))))
        have ND := add_led ND (l := wsLed _ 100 xA dxA tnA tcA vsA _ _ kA) (fun p hp => in_tail2 (.inl (List.mem_append_left _ (memA p hp))))
        dsimp only [wsLed, wsEs] at ND
        simp only [List.cons_append, List.nil_append] at ND
        have hpass : Passed := ⟨⟩
        refine Hold.go ?_
        k_steps
        (rename Fr _ _ _ _ => Fx)
        refine Hold.go ?_
        refine' comp_range (fun _ => true) (fun q => PyData.int (((cntsI l i).count q : Nat) : Int)) Fx ?hh ?hclos ?hcell ?hkind ?hnames ?hx ?hs ?_
        (case hh => with_unfolding_all rfl)
        (case hclos => with_unfolding_all rfl)
        (case hcell => decide)
        (case hkind => with_unfolding_all rfl)
        (case hnames => decide)
        (case hx => with_unfolding_all rfl)
        (case hs => intro _; with_unfolding_all rfl)
        have htop := topN_le l i
        have hcl := cntsI_len l i
        k_steps
        (rename Fr _ _ _ _ => Fy)
        (rename News _ _ _ _ => Ny)
        refine Hold.go ⟨_, _, _, _, _, _, _, _, _, rfl, by with_reducible assumption, small_one (by decide) (by decide) (by omega) (by omega), rangeSize_nat _ _, by rw [sizeLine_eq]; omega, Fy, Ny, ?_, ?_, ?_⟩
        · intro C a v s₂ m₂ E' hC ha hv hns hm2 hk
          exact wpAny_pure ⟨rfl, ⟨_, _, rfl, fun _ _ e => e⟩⟩
        · intro C a v s₂ m₂ E' hC ha hv hpz hns hm2 hk
          obtain ⟨tv, e'⟩ := ItemKind.int_is hv
          subst e'
          k_steps
          · exact .int _ _
          · (rename InElt _ _ => E9); exact ⟨_, _, rfl, E9⟩
        · intro D2 ys2 h' tk F' N' q1 q2 q3 q4
          obtain ⟨nD2, NE⟩ := comp_news F' N' q1 q2 q3
          have i6 : IntsAre ys2 (normI l i) := ints_comp q4
          clear N' q1 q2 q3 q4
          have hnl : (normI l i).length ≤ 20 := by unfold normI; rw [List.length_map]; exact Nat.le_trans (List.length_filter_le _ _) (by rw [rangeInts_length]; omega)
          obtain ⟨hcn, hb0, hrun⟩ := leadOk2 hl hi
          obtain ⟨hb1, hrun1⟩ := leadOk3 hl hi
          have htopA := topA_le l i
          k_steps
          refine Hold.go ?_
          (rename Fr _ _ _ _ => F9)
          (rename News _ _ _ _ => N9)
          replace N9 := news_sub N9 (.cons _ (.cons _ (.cons _ (.cons _ (.cons _ (.cons _ (.cons _ (.cons _ (.cons _ (.cons _ (.cons _ (.cons _ (.cons _ (.cons _ (.cons _ (.cons _ (List.Sublist.refl _)))))))))))))))))
          refine' stC F9 N9 ?hc ?U j2 ?_
          (case hc => with_unfolding_all rfl)
          (case U => intro o'; k_upd)
          intro h9 o9 F9' N9' d9
          (try dsimp only at N9')
          clear F9 N9
          k_steps
          refine Hold.go ?_
          (rename Fr _ _ _ _ => F9)
          (rename News _ _ _ _ => N9)
          refine' append_V F9 N9 ?U (tops_len j1 hi) ?_
          (case U => k_upd)
          intro h9 F9' N9'
          clear F9 N9
          k_steps
          (rename Fr _ _ _ _ => F9)
          (rename News _ _ _ _ => N9)
          refine' TurnEndT.mk' (startA N9) F9 ?nn ?ho (fun _ hp => nomatch hp) ?hr ?hi
          case ho => exact ho_same ho rfl
          case hi => exact ⟨tops_app j1 rfl, ⟨_, d9⟩, ⟨_, by with_reducible assumption⟩, ⟨_, by with_reducible assumption⟩⟩
          case nn => exact N9
          case hr =>
            intro z hz0 hz2 hz3
            have hq1 : z ≠ Str.ofString "top" := ncont hz3 (by decide)
            have hq2 : z ≠ Str.ofString "least" := ncont hz3 (by decide)
            simp only [kstB, if_neg hz0, if_neg hq1, if_neg hq2, hz3, Bool.false_eq_true, if_false]
    case done =>
      intro c u h tk hj F2 N2
      obtain ⟨j1, ⟨tf, j2⟩, ⟨vk, j3⟩, ⟨vc, j4⟩⟩ := hj
      dsimp only [kstB, ledA] at F2 N2
      obtain ⟨mc, F2⟩ := fr_gen F2
      replace N2 := news_sub N2 (.cons_cons _ (.cons _ (.cons _ (.cons_cons _ (.cons_cons _ (.cons _ (.cons_cons _ (.cons_cons _ (.cons_cons _ (.cons_cons _ (List.nil_sublist _)))))))))))
      clear LA LB MA MB offA offB offT lT1 lT2 lT10 Nq Fq
      show wpAny _ _ _ _ _ _
      (try k_fold)
      k_steps
      (rename _ ∧ _ ∧ _ ∧ _ ∧ _ ∧ _ ∧ _ ∧ _ => lB)
      (rename Fr _ _ _ _ => Fq)
      (rename News _ _ _ _ => Nq)
      refine Hold.go ?_
      have Nq0 : News _ _ _ (ledB Nq (startB Nq)) := news_sub Nq (.cons _ (List.Sublist.refl _))
      refine' iterT_list (σ := B2) (ledB Nq) (fun _ => []) [Str.ofString "stretches"] (fun _ => BInv) (startB Nq) rfl (News.isList Nq (.head _)) (Nq _ (.head _)).2.1 Fq Nq0 (fun _ hp => nomatch hp) ?hi ?turn ?done
      case hi => exact ⟨⟨_, by with_reducible assumption⟩, ⟨_, by with_reducible assumption⟩, ⟨_, j3⟩⟩
      case turn =>
        intro i v c u s₁ own I oI hv hj ho hm hI F2 N2
        obtain ⟨⟨v1, k1⟩, ⟨v2, k2⟩, ⟨v3, k3⟩⟩ := hj
        obtain ⟨x, tx, rfl, hx⟩ := one_of hv
        have hoD : OwnOff own (adrB2 Nq) := by
          intro p hp b hb
          obtain ⟨g1, g2, g3, g4, g5, g6, g7, g8⟩ := lB
          replace ho := allNe_of ho
          dsimp only [ledB] at ho; simp only [AllNe] at ho
          obtain ⟨o1, o2, o3, o4, o5, o6, o7, _⟩ := ho
          simp only [adrB2, List.mem_cons, List.mem_nil_iff, or_false] at hb
          rcases hI p hp with e | e <;> rw [e] <;> rcases hb with rfl | rfl | rfl | rfl | rfl | rfl | rfl <;> (refine neN (Ne.symm ?_)) <;> first | with_reducible assumption | omega
        dsimp only [adrB2] at hoD
        dsimp only [kstB, ledB] at F2 N2
        simp only [List.cons_append, List.nil_append] at N2
        have hib : InnerB := ⟨⟩
        k_steps
        refine Hold.go ?_
        (rename InnerB => hib); clear hib
        (rename Fr _ _ _ _ => lF')
        with_unfolding_all refine' For_invTF lF' ?hf1 ?hf2
        case hf2 => exact fun _ => rfl
        k_steps
        (rename Fr _ _ _ _ => Fr9)
        (rename News _ _ _ _ => Nr9)
        refine Hold.go ?_
        refine' iterT_range (σ := B3) (ledC Nr9) (fun _ => []) [Str.ofString "stretches"] (fun _ => CInv) (startC Nr9) rfl (by with_reducible assumption) (by decide) (n := 7) (by decide) Fr9 Nr9 (fun _ hp => nomatch hp) ?hi2 ?turn2 ?done2
        case hi2 => exact ⟨⟨_, k1⟩, ⟨_, k3⟩⟩
        case turn2 =>
          intro k t9 c2 u2 s₂ own2 I2 oI2 hk hj2 ho2 hm2 hI2 F3 N3
          obtain ⟨⟨w1, m1⟩, ⟨w2, m2⟩⟩ := hj2
          have hoE : OwnOff (own ++ own2) (adrC Nr9) := by
            refine off_app hoD ?_
            intro p hp b hb
            rw [hI2 p hp]
            replace ho2 := allNe_of ho2
            dsimp only [ledC] at ho2; simp only [AllNe] at ho2
            obtain ⟨o1, o2, o3, o4, o5, o6, o7, _⟩ := ho2
            simp only [adrC, List.mem_cons, List.mem_nil_iff, or_false] at hb
            rcases hb with rfl | rfl | rfl | rfl | rfl | rfl | rfl <;> (refine neN (Ne.symm ?_); with_reducible assumption)
          dsimp only [adrC] at hoE
          dsimp only [kstB, ledC] at F3 N3
          simp only [List.cons_append] at N3
          obtain ⟨tt, ht9⟩ := tops_at j1 hk
          have htop : topN l k ≤ 8 := by have := topN_le l k; omega
          have htop1 : topN l k + 1 ≤ 8 := by have := topN_le l k; omega
          obtain ⟨hit1, hit2⟩ := hitOk hl hx hk
          clear F2 N2
          k_steps
          have hx7 : (mkS x).length = 7 := by rw [len_mkS]; exact one_len hlen hx
          refine Hold.go ?_
          (rename Fr _ _ _ _ => Fx)
          refine with_toksQ (n := 1) (by with_reducible assumption) ?_
          refine' comp_rangeA (fun _ => true) (fun j => PyData.str (cutF x (0 + (k : Int)) j)) Fx ?hsw ?hL ?hh ?hclos ?hcell ?hkind ?hnames ?hx ?hy ?hp ?hs ?_
          (case hh => with_unfolding_all rfl)
          (case hclos => with_unfolding_all rfl)
          (case hcell => decide)
          (case hkind => with_unfolding_all rfl)
          (case hnames => decide)
          (case hx => with_unfolding_all rfl)
          (case hs => intro _; with_unfolding_all rfl)
          (case hsw => with_unfolding_all rfl)
          (case hL => with_unfolding_all rfl)
          (case hy => with_unfolding_all rfl)
          (case hp => with_unfolding_all rfl)
          k_steps
          (rename Fr _ _ _ _ => Fy)
          (rename News _ _ _ _ => Ny)
          refine Hold.go ⟨_, _, _, _, _, _, _, _, 7 - k, rfl, by with_reducible assumption, small7 hk, size7 hk, by rw [sizeLine_eq]; omega, Fy, Ny, ?_, ?_, ?_⟩
          · intro C a v s₂ m₂ E' hC ha hv hns hm2 hk
            exact wpAny_pure ⟨rfl, ⟨_, _, rfl, fun _ _ e => e⟩⟩
          · intro C a v s₂ m₂ E' hC ha hv hpz hns hm2 hk
            obtain ⟨tv, e'⟩ := ItemKind.int_is hv
            subst e'
            k_steps
            · exact .str _ _
            · (rename InElt _ _ => E9); exact ⟨_, _, rfl, E9⟩
          · intro D ys h' tk F' N' q1 q2 q3 q4
            obtain ⟨nD, ND⟩ := comp_news F' N' q1 q2 q3
            have nD9 := allNeA_of (fun p hp => q3.2 p hp)
            simp only [AllNeA] at nD9
            obtain ⟨nd1, nd2, nd3, nd4, nd5, nd6, nd7, _⟩ := nD9
            have S5 : StrsAre ys (stretchL x k) := cuts_are (one_len hlen hx) hk (by rw [List.filter_eq_self.mpr (fun _ _ => rfl)]; exact strs_comp q4)
            clear N' q1 q2 q3 q4
            intro htk3
            k_steps
            have hpass : Passed := ⟨⟩
            refine Hold.go ?_
            k_steps
            refine Hold.go ?_
            refine' ListComp_N ?hclos ?hcell ?hkind ?hnames ?hx ?_ ?hs
            (case hclos => with_unfolding_all rfl)
            (case hcell => decide)
            (case hkind => with_unfolding_all rfl)
            (case hnames => decide)
            (case hx => with_unfolding_all rfl)
            (case hs => intro _; with_unfolding_all rfl)
            k_steps
            (rename Fr _ _ _ _ => Fh)
            (rename News _ _ _ _ => Nh)
            have hys : ys.length = 7 - k := by rw [S5.length, stretch_len]
            refine list_src (xs := stretchL x k) (fun j ys => ys = ((hitsL (topN l k) x k).take j).map Value.bool) rfl (by first | with_reducible assumption | (dsimp only; omega)) Fh Nh (.head _) S5 (by rw [hys]; omega) rfl ?_ ?_
            · intro j y ty ys C m₂ s₃ E' hy hJ hC hns hm2 Fc Nc htk2 hs hk
              obtain ⟨hp2, tk2, rfl⟩ := hs
              obtain ⟨hj, rfl⟩ := stretch_at hy
              k_steps
              · exact ⟨_, _, rfl, fun _ _ e => e⟩
              · refine Hold.go ?_
                refine' pure_use (ellB _ _ _ _ _ htop ?gz) ?B Fc ?X ?T Nc ?h1 ?h2 ?hf ?hk ?hd ?hu ?_
                (case gz => (rw [List.length_take]; omega))
                (case B => k_asm)
                (case X => k_asm)
                (case T => k_asm)
                (case h1 => rfl)
                (case h2 => rfl)
                (case hf => rfl)
                (case hk => rfl)
                (case hd => exact Nat.le_of_ble_eq_true rfl)
                (case hu => exact Nat.le_of_ble_eq_true rfl)
                intro v' h' tk' F' N' st' R'
                subst R'
                k_steps
                · exact ⟨_, _, rfl, fun b o e => st' b o e⟩
                · exact hits_snoc hj hJ
            · intro D3 ys3 h' tk hJ F' N' l1 htk3
              rw [hys, hits_end] at hJ
              k_steps
              refine Hold.go ?_
              refine' ListComp_N ?hclos ?hcell ?hkind ?hnames ?hx ?_ ?hs
              (case hclos => with_unfolding_all rfl)
              (case hcell => decide)
              (case hkind => with_unfolding_all rfl)
              (case hnames => decide)
              (case hx => with_unfolding_all rfl)
              (case hs => intro _; with_unfolding_all rfl)
              k_steps
              (rename Fr _ _ _ _ => Fh)
              (rename News _ _ _ _ => Nh)
              refine list_src (xs := stretchL x k) (fun j ys => ys = ((hitsL (topN l k + 1) x k).take j).map Value.bool) rfl (by first | with_reducible assumption | (dsimp only; omega)) Fh Nh (.tail _ (.head _)) S5 (by rw [hys]; omega) rfl ?_ ?_
              · intro j y ty ys C m₂ s₃ E' hy hJ hC hns hm2 Fc Nc htk2 hs hk
                obtain ⟨hp2, tk2, rfl⟩ := hs
                obtain ⟨hj, rfl⟩ := stretch_at hy
                k_steps
                · exact ⟨_, _, rfl, fun _ _ e => e⟩
                · refine Hold.go ?_
                  refine' pure_use (ellB _ _ _ _ _ htop1 ?gz) ?B Fc ?X ?T Nc ?h1 ?h2 ?hf ?hk ?hd ?hu ?_
                  (case gz => (rw [List.length_take]; omega))
                  (case B => k_asm)
                  (case X => k_asm)
                  (case T => k_asm)
                  (case h1 => rfl)
                  (case h2 => rfl)
                  (case hf => rfl)
                  (case hk => rfl)
                  (case hd => exact Nat.le_of_ble_eq_true rfl)
                  (case hu => exact Nat.le_of_ble_eq_true rfl)
                  intro v' h' tk' F' N' st' R'
                  subst R'
                  k_steps
                  · exact ⟨_, _, rfl, fun b o e => st' b o e⟩
                  · exact hits_snoc hj hJ
              · intro D4 ys4 h' tk hJ2 F' N' l1 htk3
                rw [hys, hits_end] at hJ2
                k_steps
                (rename Fr _ _ _ _ => F9)
                (rename News _ _ _ _ => N9)
                replace N9 := news_sub N9 (.cons _ (.cons _ (.cons _ (List.Sublist.refl _))))
                refine' TurnEndT.mk' (startC N9) F9 ?nn ?ho (fun _ hp => nomatch hp) ?hr ?hi
                case ho => exact ho_same ho2 rfl
                case hi => exact ⟨⟨_, by with_reducible assumption⟩, ⟨_, by with_reducible assumption⟩⟩
                case nn => exact N9
                case hr =>
                  intro z hz0 hz2 hz3
                  have hq1 : z ≠ Str.ofString "stretches" := ncont hz3 (by decide)
                  simp only [kstB, if_neg hz0, if_neg hq1, hz3, Bool.false_eq_true, if_false]
        case done2 =>
          intro c2 u2 h2 tk2 hj2 F3 N3
          dsimp only [kstB, ledC] at F3 N3
          show wpAny _ _ _ _ _ _
          (try k_fold)
          k_steps
          (rename Fr _ _ _ _ => F9)
          (rename News _ _ _ _ => N9)
          refine' TurnEndT.mk' (startD N9) F9 ?nn ?ho (fun _ hp => nomatch hp) ?hr ?hi
          case ho => exact ho_same ho rfl
          case hi => exact ⟨hj2.cs, ⟨_, by with_reducible assumption⟩, hj2.ck⟩
          case nn => exact N9
          case hr =>
            intro z hz0 hz2 hz3
            simp only [kstB, if_neg hz0, hz3, Bool.false_eq_true, if_false]
      case done =>
        intro c u h tk hj F2 N2
        dsimp only [kstB, ledB] at F2 N2
        show wpAny _ _ _ _ _ _
        (try k_fold)
        k_steps
        refine Hold.go ?_
        refine' ListComp_R ?hclos ?hcell ?hkind ?hnames ?hx ?_ ?hs
        (case hclos => with_unfolding_all rfl)
        (case hcell => decide)
        (case hkind => with_unfolding_all rfl)
        (case hnames => decide)
        (case hx => with_unfolding_all rfl)
        (case hs => intro _; with_unfolding_all rfl)
        have hrm : RangeMark := ⟨⟩
        k_steps
        refine Hold.go ?_
        (rename RangeMark => hrm); clear hrm
        refine with_toksQ (n := 1) (by dsimp only; omega) ?_
        walk1
        intro htk3
        (rename Fr _ _ _ _ => Fh)
        (rename News _ _ _ _ => Nh)
        have hlast := lastOk hl
        have hf7 : (mkS (formK l 7)).length = 7 := by rw [len_mkS]; exact form_len l 7
        refine range_src (n := 7) (fun j ys => ys = (lastL l j).map Value.bool) rfl (by first | with_reducible assumption | (dsimp only; omega)) Fh Nh (by with_reducible assumption) (by decide) (by decide) (by decide) rfl ?_ ?_
        · intro j ty ys C m₂ s₃ E' hj hJ hC hns hm2 Fc Nc htk2 hs hk
          obtain ⟨hp2, tk2, rfl⟩ := hs
          obtain ⟨tt, ht9⟩ := tops_at j1 hj
          have htop : topN l j ≤ 8 := by have := topN_le l j; omega
          have esl : Txt.slice (mkS (formK l 7)) none (some (0 + (j : Int) + 1)) = mkS ((formK l 7).take (j + 1)) := by
            rw [show (0 + (j : Int) + 1) = ((j + 1 : Nat) : Int) by omega]
            exact slice_to (by rw [form_len]; omega)
          k_steps
          · exact ⟨_, _, rfl, fun _ _ e => e⟩
          · refine Hold.go ?_
            (rename InElt _ _ => Ed)
            (rename Fr _ _ _ _ => Fd)
            (rename News _ _ _ _ => Nd)
            rw [esl]
            refine' pure_use (ellB _ _ _ _ _ htop ?gz) ?B Fd ?X ?T Nd ?h1 ?h2 ?hf ?hk ?hd ?hu ?_
            (case gz => (rw [List.length_take]; omega))
            (case B => k_asm)
            (case X => k_asm)
            (case T => k_asm)
            (case h1 => rfl)
            (case h2 => rfl)
            (case hf => rfl)
            (case hk => rfl)
            (case hd => exact Nat.le_of_ble_eq_true rfl)
            (case hu => exact Nat.le_of_ble_eq_true rfl)
            intro v' h' tk' F' N' st' R'
            subst R'
            exact ⟨⟨_, _, rfl, fun b o e => st' b o (Ed b o e)⟩, last_snoc hJ⟩
        · intro D4 ys4 h' tk hJ2 F' N' l1 htk3
          refine notin_FT N' (.head _) hJ2 hlast ?_
          exact goodW_bool F' (by assumption) (fun _ => rfl) (by with_unfolding_all rfl)
)
end
end Mine
end
theorem PySem.Challenge.cw_pg0197_02_holds : PySem.Challenge.rw_pg0197_02.Holds :=
  Mine.law2

import PyProof.Rows.All
import Wide.All
import OpenK.AllK
import Wide.FinOn
import PyProof.Rows.WhileGen
import Lean
import PySem.Challenge.RW_pg0197_01
open PySem PySem.W PyProof.Rows
set_option Elab.async false
set_option maxRecDepth 100000
set_option maxHeartbeats 8000000
namespace Mine
open_top hd01 for PySem.Challenge.rw_pg0197_01
end Mine
section
open PySem PySem.W PySem.Spec PySem.Calls PyProof.Rows
-- part Base
namespace Mine

/-- what stands around a call, written out -/
abbrev AtA (d u : Nat) (gd : Option (List Code)) (env : Env) (outer : List Env) : Around :=
  { handled := none, depth := d, frames := some (env :: outer), guards := gd, units := u }

/-- the end of a call that changes nothing that stood before it -/
def EndP (s : Shared) (R : Value → Heap → Prop) (v : Value) (s' : Shared) : Prop :=
  s.heap.StaysIn s'.heap ∧ (∃ h' tk', s' = { s with heap := h', toks := tk' }) ∧ R v s'.heap

theorem EndP.intro {s : Shared} {R : Value → Heap → Prop} {v : Value} {h' : Heap} {tk' : Nat} (k : s.heap.StaysIn h') (r : R v h') :
    EndP s R v { s with heap := h', toks := tk' } := ⟨k, ⟨_, _, rfl⟩, r⟩

theorem with_toksQ {α : Type} {M : Model} {A : Around} {s : Shared} {t : Sem α} {Q : α → Shared → Prop} {E : Value → Shared → Prop} {n : Nat} (hn : n ≤ s.toks) (h : wpAny M A t (fun a s' => n ≤ s'.toks → Q a s') E s) : wpAny M A t Q E s :=
  wpAny_with_toks hn (wpAny_mono h (fun _ _ x => x) fun _ _ x _ => x)

/-- a call of the def at f that changes nothing that stood before it -/
def PureCall (prog : Program) (w : World) (K : Frag) (p : Program) (loose : List Str) (d u : Nat) (f : Addr) (vs : List Value) (R : Heap → Value → Heap → Prop) : Prop :=
  ∀ (gd : Option (List Code)) (env : Env) (outer : List Env) (A₀ : Around) (base h₀ : Heap) (L : Addr) (m : Str → Option Value) (s : Shared) (mean : ExcName → Option Value) (mg mb : Str → Option Value),
    Below A₀ base outer h₀ → Fr h₀ L s.heap m → K.In h₀ → Top p loose mean mg mb h₀ → env.frame = some L → env.scope.kind = .function →
    wpAny (model prog w) (AtA d u gd env outer) (call (.ref f) vs) (EndP s (R s.heap)) (fun _ _ => False) s

theorem around_le {α : Type} {M : Model} {A : Around} {t : Sem α} {Q : α → Shared → Prop} {E : Value → Shared → Prop} {s : Shared} {d u : Nat} {env : Env} {outer : List Env}
    (h : wpAny M (AtA d u A.guards env outer) t Q E s) (h1 : A.handled = none) (h2 : A.frames = some (env :: outer)) (hd : A.depth ≤ d) (hu : A.units ≤ u) : wpAny M A t Q E s :=
  fun Γ p hΓ => h Γ p ⟨hΓ.1.trans h1, Nat.le_trans hΓ.2.1 hd, fun l e => hΓ.2.2.1 l (h2.trans e), hΓ.2.2.2.1, Nat.le_trans hΓ.2.2.2.2 hu⟩

section
variable {prog : Program} {w : World} {A₀ A : Around} {s : Shared} {base h₀ : Heap} {outer : List Env} {L : Addr} {m : Str → Option Value} {env : Env} {K : Frag} {p : Program} {loose : List Str}
  {mean : ExcName → Option Value} {mg mb : Str → Option Value} {news : List (Addr × Obj)}

theorem keepsFr {h h' : Heap} (F : Fr h₀ L h m) (k : h.StaysIn h') : Fr h₀ L h' m := by
  obtain ⟨oL, es, ep, hL, r⟩ := F.ns
  exact ⟨⟨oL, es, ep, k L oL hL, r⟩, fun b o e => k b o (F.keep b o e), F.above⟩
theorem keepsNews {h h' : Heap} (N : News h₀ L h news) (k : h.StaysIn h') : News h₀ L h' news := fun p hp => ⟨k _ _ (N p hp).1, (N p hp).2⟩

theorem news_ne {h : Heap} {a : Addr} {o : Obj} (N : News h₀ L h news) (hm : (a, o) ∈ news) : a ≠ L := (N _ hm).2.1

/-- what a call has made: objects that were not there -/
def Made (h : Heap) (h' : Heap) (l : List (Addr × Obj)) : Prop := ∀ p ∈ l, h'.get? p.1 = some p.2 ∧ h.objs.size ≤ p.1
theorem Made.onto {h h' : Heap} {l : List (Addr × Obj)} (Y : Made h h' l) (F : Fr h₀ L h m) (N : News h₀ L h news) (k : h.StaysIn h') : News h₀ L h' (l ++ news) := by
  obtain ⟨oL, es, ep, hL, r⟩ := F.ns
  intro p hp
  rcases List.mem_append.mp hp with q | q
  · refine ⟨(Y p q).1, Nat.ne_of_gt (Nat.lt_of_lt_of_le (Heap.lt_size hL) (Y p q).2), ?_⟩
    cases e : h₀.get? p.1 with
    | none => rfl
    | some o => exact absurd (Nat.lt_of_lt_of_le (Heap.lt_size (F.keep _ _ e)) (Y p q).2) (Nat.lt_irrefl _)
  · exact keepsNews N k p q
theorem news_lt {h : Heap} (N : News h₀ L h news) : ∀ p ∈ news, p.1 < h.objs.size := fun p hp => Heap.lt_size (N p hp).1
theorem Made.ofL {h h' : Heap} {L' : Addr} {l : List (Addr × Obj)} (N : News h L' h' l) (hl : ∀ p ∈ l, L' < p.1) (hL : h.objs.size ≤ L') : Made h h' l :=
  fun p hp => ⟨(N p hp).1, Nat.le_of_lt (Nat.lt_of_le_of_lt hL (hl p hp))⟩

theorem pure_use {d u : Nat} {f : Addr} {vs : List Value} {R : Heap → Value → Heap → Prop} {Q : Value → Shared → Prop} {E : Value → Shared → Prop}
    (C : PureCall prog w K p loose d u f vs R) (B : Below A₀ base outer h₀) (F : Fr h₀ L s.heap m) (X : K.In h₀) (T : Top p loose mean mg mb h₀) (N : News h₀ L s.heap news)
    (h1 : A.handled = none) (h2 : A.frames = some (env :: outer)) (hf : env.frame = some L) (hk : env.scope.kind = .function) (hd : A.depth ≤ d) (hu : A.units ≤ u)
    (h : ∀ v h' tk', Fr h₀ L h' m → News h₀ L h' news → s.heap.StaysIn h' → R s.heap v h' → Q v { s with heap := h', toks := tk' }) :
    wpAny (model prog w) A (call (.ref f) vs) Q E s := by
  refine around_le ?_ h1 h2 hd hu
  refine wpAny_mono (C A.guards env outer A₀ base h₀ L m s mean mg mb B F X T hf hk) (fun v s' he => ?_) fun _ _ x => x.elim
  obtain ⟨k, ⟨h', tk', rfl⟩, r⟩ := he
  exact h v h' tk' (keepsFr F k) (keepsNews N k) k r
end

/-- the same, of states that have drawn a token -/
def PureCallT (prog : Program) (w : World) (K : Frag) (p : Program) (loose : List Str) (d u : Nat) (f : Addr) (vs : List Value) (R : Heap → Value → Heap → Prop) : Prop :=
  ∀ (gd : Option (List Code)) (env : Env) (outer : List Env) (A₀ : Around) (base h₀ : Heap) (L : Addr) (m : Str → Option Value) (s : Shared) (mean : ExcName → Option Value) (mg mb : Str → Option Value),
    1 ≤ s.toks → Below A₀ base outer h₀ → Fr h₀ L s.heap m → K.In h₀ → Top p loose mean mg mb h₀ → env.frame = some L → env.scope.kind = .function →
    wpAny (model prog w) (AtA d u gd env outer) (call (.ref f) vs) (EndP s (R s.heap)) (fun _ _ => False) s
theorem pure_useT {prog : Program} {w : World} {A₀ A : Around} {s : Shared} {base h₀ : Heap} {outer : List Env} {L : Addr} {m : Str → Option Value} {env : Env} {K : Frag} {p : Program} {loose : List Str}
    {mean : ExcName → Option Value} {mg mb : Str → Option Value} {news : List (Addr × Obj)} {d u : Nat} {f : Addr} {vs : List Value} {R : Heap → Value → Heap → Prop} {Q : Value → Shared → Prop} {E : Value → Shared → Prop}
    (C : PureCallT prog w K p loose d u f vs R) (ht : 1 ≤ s.toks) (B : Below A₀ base outer h₀) (F : Fr h₀ L s.heap m) (X : K.In h₀) (T : Top p loose mean mg mb h₀) (N : News h₀ L s.heap news)
    (h1 : A.handled = none) (h2 : A.frames = some (env :: outer)) (hf : env.frame = some L) (hk : env.scope.kind = .function) (hd : A.depth ≤ d) (hu : A.units ≤ u)
    (h : ∀ v h' tk', 1 ≤ tk' → Fr h₀ L h' m → News h₀ L h' news → s.heap.StaysIn h' → R s.heap v h' → Q v { s with heap := h', toks := tk' }) :
    wpAny (model prog w) A (call (.ref f) vs) Q E s := by
  refine around_le ?_ h1 h2 hd hu
  refine wpAny_with_toks (n := 1) ht (wpAny_mono (C A.guards env outer A₀ base h₀ L m s mean mg mb ht B F X T hf hk) (fun v s' he => ?_) fun _ _ x => x.elim)
  obtain ⟨k, ⟨h', tk', rfl⟩, r⟩ := he
  exact fun ht' => h v h' tk' ht' (keepsFr F k) (keepsNews N k) k r

section
variable {prog : Program} {w : World} {A₀ A : Around} {s : Shared} {base h₀ : Heap} {outer : List Env} {L : Addr} {m : Str → Option Value} {env : Env} {K : Frag} {p : Program} {loose : List Str}
  {mean : ExcName → Option Value} {mg mb : Str → Option Value} {R : Value → Heap → Prop} {name qual : Str} {params : Arguments} {body : List Stmt} {scope : Scope} {dV kV doc pm cdv ct oc : Value} {an od : Option Addr} {osl : Array (Option Value)} {f : Addr} {args : List Value} {binds : List (Str × Value)}

theorem pure_enter (B : Below A₀ base outer h₀) (F : Fr h₀ L s.heap m) (X₀ : K.In h₀) (T : Top p loose mean mg mb h₀) (hA : A.frames = some (env :: outer)) (hf : env.frame = some L) (hke : env.scope.kind = .function)
    (ho : K.lookup f = some ⟨oc, od, .func (fnOf name qual params body scope dV kV doc pm an cdv ct), osl⟩) (hcd : codeIn K cdv qual = true) (hroom : A.depth < recursionLimit)
    (hbind : BindsTo s (fnOf name qual params body scope dV kV doc pm an cdv ct) ⟨args, []⟩ binds) (hloc : ∀ y ∈ binds, scope.names.lookup y.1 = some .local)
    (h : ∀ L' h₁, Fr s.heap L' h₁ (fun y => binds.reverse.lookup y) → News s.heap L' h₁ [] → Below A base (env :: outer) s.heap → K.In s.heap → Top p loose mean mg mb s.heap →
      wpAny (model prog w) (A.deeper (envOf qual scope L' f cdv)) (execs body (envOf qual scope L' f cdv))
        (fun fl s' => EndP s R (match fl with | .ret v => v | _ => .none) s') (fun _ _ => False)
        { s with heap := h₁, toks := s.toks + binds.length })
    (hco : scope.isCoroutine = false) (hgen : scope.isGenerator = false) (hk : scope.kind = .function)
    (hcell : ∀ x ∈ scope.names, x.2 ≠ .cell) : wpAny (model prog w) A (call (.ref f) args) (EndP s R) (fun _ _ => False) s := by
  have hA' : A.frames = some (env :: outer) := hA
  have B₁ := pushX B F hf hke
  have B₂ : Below A base (env :: outer) s.heap := ⟨hA, B₁.stays, B₁.frames⟩
  refine wpAny_call ?_
  refine codeAny_call_def (fd := fnOf name qual params body scope dV kV doc pm an cdv ct) (body := body) (binds := binds) hroom ((X₀.keeps F.keep) _ _ ho) rfl (T.nolimit.keeps F.keep) (codeRec_of (X₀.keeps F.keep) hcd) rfl hbind hcell hloc (fun h₁ hns hk₁ => ?_) hco hgen hk
  exact wpAny_mono (h s.heap.objs.size h₁ ⟨hns, hk₁, Nat.le_refl _⟩ (fun _ hp => nomatch hp) B₂ (X₀.keeps F.keep) (T.keeps F.keep)) (fun fl s' hl => hl) fun _ _ y => y.elim

theorem pure_enterT (ht : 1 ≤ s.toks) (B : Below A₀ base outer h₀) (F : Fr h₀ L s.heap m) (X₀ : K.In h₀) (T : Top p loose mean mg mb h₀) (hA : A.frames = some (env :: outer)) (hf : env.frame = some L) (hke : env.scope.kind = .function)
    (ho : K.lookup f = some ⟨oc, od, .func (fnOf name qual params body scope dV kV doc pm an cdv ct), osl⟩) (hcd : codeIn K cdv qual = true) (hroom : A.depth < recursionLimit)
    (hbind : BindsTo s (fnOf name qual params body scope dV kV doc pm an cdv ct) ⟨args, []⟩ binds) (hloc : ∀ y ∈ binds, scope.names.lookup y.1 = some .local)
    (h : ∀ L' h₁ tk, 1 ≤ tk → Fr s.heap L' h₁ (fun y => binds.reverse.lookup y) → News s.heap L' h₁ [] → Below A base (env :: outer) s.heap → K.In s.heap → Top p loose mean mg mb s.heap →
      wpAny (model prog w) (A.deeper (envOf qual scope L' f cdv)) (execs body (envOf qual scope L' f cdv))
        (fun fl s' => EndP s R (match fl with | .ret v => v | _ => .none) s') (fun _ _ => False)
        { s with heap := h₁, toks := tk })
    (hco : scope.isCoroutine = false) (hgen : scope.isGenerator = false) (hk : scope.kind = .function)
    (hcell : ∀ x ∈ scope.names, x.2 ≠ .cell) : wpAny (model prog w) A (call (.ref f) args) (EndP s R) (fun _ _ => False) s :=
  pure_enter B F X₀ T hA hf hke ho hcd hroom hbind hloc (fun L' h₁ F' N' B' X' T' => h L' h₁ _ (Nat.le_trans ht (Nat.le_add_right _ _)) F' N' B' X' T') hco hgen hk hcell

/-- the end of a class's __init__ -/
def EndI (s : Shared) (x : Addr) (R : Value → Heap → Prop) (v : Value) (s' : Shared) : Prop := v = .none ∧ EndP s R (.ref x) s'
theorem EndI.intro {x : Addr} {h' : Heap} {tk' : Nat} (k : s.heap.StaysIn h') (r : R (.ref x) h') : EndI s x R .none { s with heap := h', toks := tk' } := ⟨rfl, k, ⟨_, _, rfl⟩, r⟩

theorem cls_enter {C : Addr} {bnd : Addr → List (Str × Value)} (B : Below A₀ base outer h₀) (F : Fr h₀ L s.heap m) (X₀ : K.In h₀) (T : Top p loose mean mg mb h₀) (hA : A.frames = some (env :: outer)) (hf : env.frame = some L) (hke : env.scope.kind = .function)
    (hm : makesIn K C = true) (hi : findIn K (.ref C) "__init__" = some (some (.ref f))) (hfn : isFn K (.ref f) = true)
    (ho : K.lookup f = some ⟨oc, od, .func (fnOf name qual params body scope dV kV doc pm an cdv ct), osl⟩) (hcd : codeIn K cdv qual = true) (hroom : A.depth + 1 < recursionLimit)
    (hbind : ∀ x (s : Shared), BindsTo s (fnOf name qual params body scope dV kV doc pm an cdv ct) ⟨.ref x :: args, []⟩ (bnd x)) (hloc : ∀ x, ∀ y ∈ bnd x, scope.names.lookup y.1 = some .local)
    (h : ∀ x dx L' h₁ tk, dx < x → x < L' → s.heap.objs.size ≤ dx → Fr s.heap L' h₁ (fun y => (bnd x).reverse.lookup y) → News s.heap L' h₁ [(x, instObj C dx), (dx, dictOf [] 0)] → Below (A.under (.builtin "type.__call__" ⟨.ref C :: args, []⟩)) base (env :: outer) s.heap → K.In s.heap → Top p loose mean mg mb s.heap →
      wpAny (model prog w) ((A.under (.builtin "type.__call__" ⟨.ref C :: args, []⟩)).deeper (envOf qual scope L' f cdv)) (execs body (envOf qual scope L' f cdv))
        (fun fl s' => EndI s x R (match fl with | .ret v => v | _ => .none) s') (fun _ _ => False)
        { s with heap := h₁, toks := tk })
    (hco : scope.isCoroutine = false) (hgen : scope.isGenerator = false) (hk : scope.kind = .function)
    (hcell : ∀ x ∈ scope.names, x.2 ≠ .cell) : wpAny (model prog w) A (call (.ref C) args) (EndP s R) (fun _ _ => False) s := by
  have X := X₀.keeps F.keep
  have hA' : (A.under (.builtin "type.__call__" ⟨.ref C :: args, []⟩)).frames = some (env :: outer) := hA
  have B₁ := pushX B F hf hke
  have B₂ : Below (A.under (.builtin "type.__call__" ⟨.ref C :: args, []⟩)) base (env :: outer) s.heap := ⟨hA', B₁.stays, B₁.frames⟩
  refine wpAny_call ?_
  obtain ⟨hh, g, d, t, os⟩ := s
  refine make_core (makes_of X hm) (looks_findIn X hi) (fun self => bind_fn X self (beq_iff_eq.mp hfn)) (.inl rfl) ?_
  have st : hh.StaysIn ((hh.push emptyDict).push (instObj C hh.objs.size)) := fun b o e => Heap.get?_push_of_some _ (Heap.get?_push_of_some _ e)
  have hx : ((hh.push emptyDict).push (instObj C hh.objs.size)).get? (hh.objs.size + 1) = some (instObj C hh.objs.size) := by
    have := Heap.get?_push_size (o := instObj C hh.objs.size) (hh.push emptyDict) rfl
    rwa [Heap.size_push] at this
  have hd' : ((hh.push emptyDict).push (instObj C hh.objs.size)).get? hh.objs.size = some emptyDict := Heap.get?_push_of_some _ (Heap.get?_push_size _ rfl)
  have hsz : ((hh.push emptyDict).push (instObj C hh.objs.size)).objs.size = hh.objs.size + 2 := by rw [Heap.size_push, Heap.size_push]
  have fresh : ∀ a, hh.objs.size ≤ a → hh.get? a = none := fun a ha => by
    cases q : hh.get? a with
    | none => rfl
    | some o => exact absurd (Nat.lt_of_lt_of_le (Heap.lt_size q) ha) (Nat.lt_irrefl _)
  refine codeAny_call_def (s := ⟨(hh.push emptyDict).push (instObj C hh.objs.size), g, d, t, os⟩) (fd := fnOf name qual params body scope dV kV doc pm an cdv ct) (body := body) (binds := bnd (hh.objs.size + 1)) (by show A.depth + 1 < _; exact hroom) (st _ _ (X _ _ ho)) rfl ((T.nolimit.keeps F.keep).keeps st) (codeRec_of (X.keeps st) hcd) rfl (hbind _ _) hcell (hloc _) (fun h₁ hns hk₁ => ?_) hco hgen hk
  refine wpAny_mono (h (hh.objs.size + 1) hh.objs.size _ h₁ _ (Nat.lt_succ_self _) (by show hh.objs.size + 1 < ((hh.push emptyDict).push (instObj C hh.objs.size)).objs.size; rw [hsz]; exact Nat.lt_succ_self _) (Nat.le_refl _) ⟨hns, fun b o e => hk₁ b o (st b o e), by show hh.objs.size ≤ ((hh.push emptyDict).push (instObj C hh.objs.size)).objs.size; rw [hsz]; omega⟩ ?_ B₂ X (T.keeps F.keep)) (fun fl s' hl => hl) fun _ _ y => y.elim
  intro p hp
  rcases List.mem_cons.mp hp with rfl | hp
  · exact ⟨hk₁ _ _ hx, by show hh.objs.size + 1 ≠ ((hh.push emptyDict).push (instObj C hh.objs.size)).objs.size; rw [hsz]; exact Nat.ne_of_lt (Nat.lt_succ_self _), fresh _ (Nat.le_succ _)⟩
  · rw [List.mem_singleton.mp hp]
    exact ⟨hk₁ _ _ hd', by show hh.objs.size ≠ ((hh.push emptyDict).push (instObj C hh.objs.size)).objs.size; rw [hsz]; omega, fresh _ (Nat.le_refl _)⟩
end
end Mine
-- part Re
namespace Mine
open PySem.Builtin.Re

theorem slot_sub : Slot "re.Pattern" "sub" "re.Pattern.sub" :=
  .of (owner := "re.Pattern") (n := "sub") (by rw [typeLookup_type, builtinLookup_eq_fast]; kernel_rfl) (by decide +kernel) (by decide +kernel) (by decide +kernel)
    (by first | exact .inl (by decide +kernel) | exact .inr (by decide +kernel)) (by rw [isSubtype_type]; kernel_rfl)
theorem type_sub : typeOf (.builtin "re.Pattern.sub") = pure (.type "method_descriptor") := by show builtinType _ = _; rw [builtinType_eq_fast]; kernel_rfl
theorem entry_sub : entryFor table "re.Pattern.sub" = some Builtin.«re.Pattern.sub» := entryFor_of_tree (by kernel_rfl)
theorem entry_loop : entryFor table "re.Pattern.sub.loop" = some Builtin.«re.Pattern.sub.loop» := entryFor_of_tree (by kernel_rfl)
theorem plain_loop : plainId "re.Pattern.sub.loop" = true := by decide +kernel
theorem args_sub (a b c : Value) : argsOk "re.Pattern.sub" ⟨[a, b, c], []⟩ := by unfold argsOk; kernel_rfl
theorem attrs_pat : PlainAttrs "re.Pattern" :=
  ⟨⟨"object.__getattribute__", by rw [typeLookup_type, builtinLookup_eq_fast]; kernel_rfl, by decide +kernel⟩, by rw [typeLookup_type, builtinLookup_eq_fast]; kernel_rfl⟩
theorem str_nocall : typeLookup (.type "str") "__call__" = pure none := by rw [typeLookup_type, builtinLookup_eq_fast]; kernel_rfl
theorem named_sub (a b : Value) : reNamed "re.Pattern.sub" "sub" ["repl", "string", "count"] 2 [a, b] [] = pure [some a, some b, none] := by kernel_rfl

theorem runFor_stop {m : PySem.Sre.M} (h : m.outcome.isSome = true) : ∀ n, PySem.Sre.M.runFor n m = m
  | 0 => rfl
  | n + 1 => by unfold PySem.Sre.M.runFor; rw [if_pos h]
theorem runFor_add : ∀ (a b : Nat) (m : PySem.Sre.M), PySem.Sre.M.runFor (a + b) m = PySem.Sre.M.runFor b (PySem.Sre.M.runFor a m)
  | 0, b, m => by rw [Nat.zero_add]; rfl
  | a + 1, b, m => by
    rw [Nat.succ_add]
    by_cases h : m.outcome.isSome = true
    · rw [runFor_stop h, runFor_stop h, runFor_stop h]
    · show (if m.outcome.isSome = true then m else PySem.Sre.M.runFor (a + b) m.step) = PySem.Sre.M.runFor b (if m.outcome.isSome = true then m else PySem.Sre.M.runFor a m.step)
      rw [if_neg h, if_neg h]
      exact runFor_add a b _
section
variable {M : Model} {A : Around} {E : Value → Shared → Prop} {s : Shared}
theorem wpAny_drive {Q : PySem.Sre.M → Shared → Prop} : ∀ (k turns : Nat) (m : PySem.Sre.M), k < turns → (PySem.Sre.M.runFor (4 * k) m).outcome.isSome = true → Q (PySem.Sre.M.runFor (4 * k) m) s →
    wpAny M A (reDrive turns m) Q E s
  | k, 0, m, h, _, _ => absurd h (Nat.not_lt_zero _)
  | 0, t + 1, m, _, ho, hq => by
    have ho' : m.outcome.isSome = true := ho
    unfold reDrive
    have e : PySem.Sre.M.runFor reTurnSteps m = m := runFor_stop ho' _
    simp only [e]
    rw [if_pos ho']
    exact wpAny_pure hq
  | k + 1, t + 1, m, h, ho, hq => by
    have e : PySem.Sre.M.runFor (4 * (k + 1)) m = PySem.Sre.M.runFor (4 * k) (PySem.Sre.M.runFor 4 m) := by rw [← runFor_add]; congr 1; omega
    unfold reDrive
    show wpAny M A (if (PySem.Sre.M.runFor 4 m).outcome.isSome = true then pure (PySem.Sre.M.runFor 4 m) else do rule "sre.turn"; reDrive t (PySem.Sre.M.runFor 4 m)) Q E s
    by_cases h4 : (PySem.Sre.M.runFor 4 m).outcome.isSome = true
    · rw [if_pos h4]
      rw [e, runFor_stop h4] at hq
      exact wpAny_pure hq
    · rw [if_neg h4]
      rw [e] at ho hq
      exact wpAny_bind (wpAny_rule (wpAny_drive k t _ (Nat.lt_of_succ_lt_succ h) ho hq))
theorem wpAny_tags {Q : PUnit → Shared → Prop} (f : Nat → PUnit → Sem (ForInStep PUnit)) (hf : ∀ i (R : ForInStep PUnit → Shared → Prop), R (.yield ⟨⟩) s → wpAny M A (f i ⟨⟩) R E s) :
    ∀ (l : List Nat), Q ⟨⟩ s → wpAny M A (forIn l PUnit.unit f) Q E s
  | [], h => by rw [List.forIn_nil]; exact wpAny_pure h
  | i :: l, h => by
    rw [List.forIn_cons]
    exact wpAny_bind (hf i _ (wpAny_tags f hf l h))
theorem wpAny_runEnd {m m' : PySem.Sre.M} {yes : Bool} {Q : Option PySem.Sre.M → Shared → Prop} (e : PySem.Sre.M.runFor 4000 m = m') (ho : m'.outcome = some (if yes then .matched else .failed))
    (h : Q (if yes then some m' else none) s) : wpAny M A (reRunToEnd m) Q E s := by
  unfold reRunToEnd
  refine wpAny_bind (wpAny_drive 1000 (2 ^ 64) m (by decide) (by show (PySem.Sre.M.runFor 4000 m).outcome.isSome = true; rw [e, ho]; rfl) ?_)
  show wpAny M A _ Q E s
  refine wpAny_bind (wpAny_tags _ (fun i R hR => ?_) _ ?_)
  · show wpAny M A (if (PySem.Sre.M.runFor 4000 m).seen.has i = true then _ else _) R E s
    split
    · exact wpAny_bind (wpAny_rule (wpAny_pure hR))
    · exact wpAny_pure hR
  · show wpAny M A (match (PySem.Sre.M.runFor 4000 m).outcome with | some .matched => pure (some (PySem.Sre.M.runFor 4000 m)) | some .failed => pure none | some (.stuck why) => unsupported s!"_sre:{why}" | none => unsupported "internal:sre:no-outcome") Q E s
    rw [e, ho]
    cases yes
    · exact wpAny_pure h
    · exact wpAny_pure h
end

/-- one search: none where it sticks, some none where nothing is found, else where the find begins and ends -/
def srch (code text : Array Nat) (start : Nat) (must : Bool) : Option (Option (Nat × Nat)) :=
  match PySem.Sre.M.runFor 4000 (PySem.Sre.forSearch code text 0 start text.size must) with
  | m => match m.outcome with
    | some .matched => some (some (m.start, m.handed))
    | some .failed => some none
    | _ => none
/-- the pieces of what sub gives -/
def subs (code text : Array Nat) (repl : PySem.Str) : Nat → Nat → Bool → Option (List PySem.Str)
  | 0, _, _ => none
  | f + 1, start, must => match srch code text start must with
    | none => none
    | some none => some (if start < text.size then [⟨text.extract start text.size⟩] else [])
    | some (some (b, e)) => match subs code text repl f e (e == b) with
      | none => none
      | some l => some ((if start < b then [⟨text.extract start b⟩] else []) ++ repl :: l)
def subAll (code text : Array Nat) (repl : PySem.Str) : Option PySem.Str := (subs code text repl 100 0 false).map (PySem.Txt.join ⟨#[]⟩)

structure Pat (h : Heap) (P : Addr) (code : Array Nat) : Prop where
  pat : ∃ a0 a1 a3 a4 C t2 t6, h.get? P = some ⟨.type "re.Pattern", none, .fields #[a0, a1, .int 0 t2, a3, a4, .ref C, .int 0 t6], #[]⟩ ∧
    ∃ o items n, h.get? C = some o ∧ o.cls = .type "tuple" ∧ o.data = .seq items n ∧ (items.map reRawOf).map (·.toNat) = code
theorem Pat.keeps {h h' : Heap} {P : Addr} {code : Array Nat} (X : Pat h P code) (l : Addr) (hl : ∀ items, h.IsList l items → True) (hn : ∃ items, h.IsList l items) (k : ∀ b o, b ≠ l → h.get? b = some o → h'.get? b = some o) : Pat h' P code := by
  obtain ⟨a0, a1, a3, a4, C, t2, t6, hP, o, items, n, hC, hc, hd, he⟩ := X.pat
  obtain ⟨is, ol, hol, hcl, _⟩ := hn
  refine ⟨a0, a1, a3, a4, C, t2, t6, k _ _ ?_ hP, o, items, n, k _ _ ?_ hC, hc, hd, he⟩
  · rintro rfl; rw [hol] at hP; cases hP; exact absurd (show Value.type "re.Pattern" = Value.type "list" from hcl) (by decide)
  · rintro rfl; rw [hol] at hC; cases hC; rw [hc] at hcl; exact absurd hcl (by decide)

section
variable {prog : Program} {w : World} {A : Around} {E : Value → Shared → Prop} {s : Shared}
theorem wpAny_target {P : Addr} {code : Array Nat} {x : PySem.Str} {t : Tok} {Q : ReTarget → Shared → Prop} (X : Pat s.heap P code)
    (h : Q { pattern := .ref P, string := .str x t, code, text := x.cps, kind := 0, groups := 0, pos := 0, lim := x.cps.size } s) :
    wpAny (model prog w) A (reWholeTarget (.ref P) (.str x t)) Q E s := by
  obtain ⟨a0, a1, a3, a4, C, t2, t6, hP, o, items, n, hC, hc, hd, he⟩ := X.pat
  unfold reWholeTarget
  refine wpAny_bind (wpAny_fieldsOf hP rfl ?_)
  refine wpAny_bind (wpAny_bind (wpAny_pure (wpAny_pure ?_)))
  show wpAny (model prog w) A (do
    reNoCollectionInside (.str x t) 0
    pure { pattern := .ref P, string := .str x t, code := (← reRawItems (.ref C)).map (·.toNat), text := x.cps, kind := 0, groups := 0, pos := 0, lim := x.cps.size }) Q E s
  refine wpAny_bind (wpAny_pure ?_)
  refine wpAny_bind (wpAny_bind (wpAny_seqItems hC hd (wpAny_pure ?_)))
  refine wpAny_pure ?_
  show Q { pattern := .ref P, string := .str x t, code := ((items.map reRawOf).map (·.toNat)), text := x.cps, kind := 0, groups := 0, pos := 0, lim := x.cps.size } s
  rw [he]; exact h

theorem wpAny_next {T : ReTarget} {start : Nat} {must : Bool} {r : Option (Nat × Nat)} {Q : Option PySem.Sre.M → Shared → Prop} (hg : T.groups = 0) (hl : T.lim = T.text.size) (e : srch T.code T.text start must = some r)
    (h : ∀ m : Option PySem.Sre.M, m.map (fun m => (m.start, m.handed)) = r → Q m s) : wpAny (model prog w) A (reNextFound T start must) Q E s := by
  unfold reNextFound
  rw [hg, hl]
  unfold srch at e
  dsimp only at e
  cases ho : (PySem.Sre.M.runFor 4000 (PySem.Sre.forSearch T.code T.text 0 start T.text.size must)).outcome with
  | none => rw [ho] at e; cases e
  | some v =>
    rw [ho] at e
    cases v with
    | matched =>
      cases e
      exact wpAny_runEnd (yes := true) rfl ho (h _ rfl)
    | failed =>
      cases e
      exact wpAny_runEnd (yes := false) rfl ho (h _ rfl)
    | stuck w => cases e

theorem push_list {h : Heap} {l : Addr} {vs : List Value} {v : Value} (hl : h.IsList l vs.toArray) :
    (h.update l (Obj.mapSeq (·.push v))).IsList l (vs ++ [v]).toArray ∧ ∀ b o, b ≠ l → h.get? b = some o → (h.update l (Obj.mapSeq (·.push v))).get? b = some o := by
  obtain ⟨⟨c, d, dt, sl⟩, ho, hc, n, hd⟩ := hl
  simp only at hc hd
  subst hc hd
  refine ⟨⟨_, Heap.get?_update_self (Obj.mapSeq (·.push v)) ho rfl, rfl, (if (vs.toArray.push v).size == vs.toArray.size then n else n + 1), ?_⟩, fun b o hb e => (Heap.get?_update_ne _ _ _ _ hb).trans e⟩
  show (Data.seq (vs.toArray.push v) (if (vs.toArray.push v).size == vs.toArray.size then n else n + 1)) = Data.seq (vs ++ [v]).toArray (if (vs.toArray.push v).size == vs.toArray.size then n else n + 1)
  rw [← List.push_toArray]
theorem strs_snoc' {us : List Value} {ws : List PySem.Str} {x : PySem.Str} {t : Tok} (h : StrsAre us ws) : StrsAre (us ++ [.str x t]) (ws ++ [x]) := h.append' (.cons _ _ .nil)

theorem wpAny_push {l : Addr} {vs : List Value} {v : Value} {Q : PUnit → Shared → Prop} (hl : s.heap.IsList l vs.toArray) (hz : vs.length < 100000)
    (h : Q ⟨⟩ { s with heap := s.heap.update l (Obj.mapSeq (·.push v)) }) : wpAny (model prog w) A (updateSeq l (·.push v)) Q E s := by
  obtain ⟨o, ho, hc, n, hd⟩ := hl
  exact wpAny_updateSeq ho hd h (by rw [List.size_toArray, sizeLine_eq]; omega) (by rw [Array.size_push, List.size_toArray, sizeLine_eq]; omega)

theorem sub_loop {code : Array Nat} {P Lp : Addr} {x repl : PySem.Str} {t tr : Tok} (hx : x.length ≤ 10000) :
    ∀ (f : Nat) (n : Int) (start : Nat) (must : Bool) (out : List PySem.Str) (vs : List Value) (ps : List PySem.Str) (s : Shared) (R : Result → Shared → Prop),
    subs code x.cps repl f start must = some out → Pat s.heap P code → s.heap.IsList Lp vs.toArray → StrsAre vs ps → (ps ++ out).length ≤ 50000 → ((ps ++ out).map (·.length)).sum ≤ 10000000 →
    (∀ h' tk t', (∀ b o, b ≠ Lp → s.heap.get? b = some o → h'.get? b = some o) → R (.ok (.ret (.str (PySem.Txt.join ⟨#[]⟩ (ps ++ out)) t'))) { s with heap := h', toks := tk }) →
    codeAny (model prog w) A (.builtin "re.Pattern.sub.loop" ⟨[.ref P, .str x t, .str repl tr, rawInt 0, rawInt 0, rawInt n, rawInt start, rawInt start, .bool must, .ref Lp, .bool false], []⟩) R s := by
  intro f
  induction f with
  | zero => intro n start must out vs ps s R e; cases e
  | succ f ih =>
    intro n start must out vs ps s R e X hl hv hn hs hR
    have hlen : vs.length = ps.length := hv.length
    refine codeAny_builtin entry_loop ?_
    rw [Around.under_plainId plain_loop]
    unfold Builtin.«re.Pattern.sub.loop»
    unfold subs at e
    show wpAny (model prog w) A.in1 (do
      let t ← reWholeTarget (.ref P) (.str x t)
      reLiteralCannotBeTurned (.str repl tr)
      match ← (if (((0 : Int) != 0 && n ≥ 0) : Bool) = true then pure none else reNextFound t (start : Int).toNat must) with
      | some m => do
        if (start : Int).toNat < m.start then updateSeq Lp (·.push (← reSlice t.text t.kind (start : Int).toNat m.start))
        let item ← (pure (.str repl tr) : Sem Value)
        if item != .none then updateSeq Lp (·.push item)
        again (.builtin "re.Pattern.sub.loop" ⟨[.ref P, .str x _, .str repl tr, rawInt 0, rawInt 0, rawInt (n + 1), rawInt m.handed, rawInt m.handed, .bool (m.handed == m.start), .ref Lp, .bool false], []⟩)
      | none => do
        if (start : Int).toNat < t.lim then updateSeq Lp (·.push (← reSlice t.text t.kind (start : Int).toNat t.lim))
        let joiner ← reSlice t.text t.kind 0 0
        let text ← if ((← seqItems? (.ref Lp)).getD #[]).isEmpty then pure joiner
          else call (.builtin (if t.kind == 0 then "str.join" else "bytes.join")) [joiner, .ref Lp]
        if false then ret (← holding [text] do newTuple [text, ← mkInt n]) else ret text) _ _ s
    refine wpAny_bind (wpAny_target X ?_)
    refine wpAny_bind (wpAny_bind (wpAny_pure (wpAny_pure ?_)))
    rw [if_neg (show ¬ (((0 : Int) != 0 && decide (n ≥ 0)) = true) from by simp)]
    cases hr : srch code x.cps start must with
    | none => rw [hr] at e; cases e
    | some r =>
      refine wpAny_bind (wpAny_next (r := r) rfl rfl hr fun m hm => ?_)
      rw [hr] at e
      cases r with
      | none =>
        have hm' : m = none := by cases m with | none => rfl | some m => cases hm
        subst hm'
        dsimp only at e ⊢
        have e' := Option.some.inj e
        subst e'
        -- the end: what is left, then the joining
        have last : ∀ (vs' : List Value) (ps' : List PySem.Str) (h' : Heap) (tk : Nat), h'.IsList Lp vs'.toArray → StrsAre vs' ps' → ps' = ps ++ (if start < x.cps.size then [⟨x.cps.extract start x.cps.size⟩] else []) →
            (∀ b o, b ≠ Lp → s.heap.get? b = some o → h'.get? b = some o) →
            wpAny (model prog w) A.in1 (do
              let joiner ← reSlice x.cps 0 0 0
              let __do_lift ← seqItems? (Value.ref Lp)
              if (__do_lift.getD #[]).isEmpty = true then do
                let text ← pure joiner
                if false = true then do
                  let __do_lift ← holding [text] do
                      let __do_lift ← mkInt n
                      newTuple [text, __do_lift]
                  ret __do_lift
                else ret text
              else do
                let text ← call (Value.builtin "str.join") [joiner, Value.ref Lp]
                if false = true then do
                  let __do_lift ← holding [text] do
                      let __do_lift ← mkInt n
                      newTuple [text, __do_lift]
                  ret __do_lift
                else ret text) (fun fin s' => match fin with | PySem.Fin.done f => R (Except.ok f) s' | PySem.Fin.again c' => c'.quiet = true ∧ codeAny (model prog w) A c' R s') (fun e s' => R (Except.error e) s') { s with heap := h', toks := tk } := by
          intro vs' ps' h' tk hl' hv' he hk
          refine wpAny_bind (wpAny_mkStr ?_ (by show (x.cps.extract 0 0).size ≤ sizeLine; rw [Array.size_extract, sizeLine_eq]; omega))
          obtain ⟨o, ho, hc, k, hd⟩ := id hl'
          refine wpAny_bind (wpAny_seqItems ho hd ?_)
          dsimp only [Option.getD_some]
          have en : ({ cps := x.cps.extract 0 0 } : PySem.Str) = ⟨#[]⟩ := by simp
          rw [en]
          by_cases hz : vs'.toArray.isEmpty = true
          · rw [if_pos hz]
            have : vs' = [] := by simpa using hz
            subst this
            cases hv'
            refine wpAny_bind (wpAny_pure ?_)
            rw [if_neg Bool.false_ne_true]
            refine wpAny_pure ?_
            have z := hR h' (tk + 1) tk hk
            rw [← he] at z
            exact z
          · rw [if_neg hz]
            refine wpAny_bind (join_list hl' hv' (by rw [he]; show _ + _ * 0 ≤ _; omega) fun t' k => ?_)
            rw [if_neg Bool.false_ne_true]
            refine wpAny_pure ?_
            have z := hR h' k t' hk
            rw [← he] at z
            exact z
        by_cases hlt : start < x.cps.size
        · rw [if_pos (show ((start : Int).toNat) < x.cps.size from hlt)]
          refine wpAny_bind (wpAny_mkStr ?_ (by show (x.cps.extract start x.cps.size).size ≤ sizeLine; rw [Array.size_extract, sizeLine_eq]; have : x.cps.size ≤ 10000 := hx; omega))
          have hn' : ps.length < 50000 := by rw [if_pos hlt, List.length_append, List.length_singleton] at hn; omega
          refine wpAny_bind (wpAny_push (s := { s with toks := s.toks + 1 }) hl (by omega) ?_)
          obtain ⟨q1, q2⟩ := push_list (v := .str ⟨x.cps.extract start x.cps.size⟩ s.toks) hl
          exact last _ _ _ _ q1 (strs_snoc' hv) (by rw [if_pos hlt]) q2
        · rw [if_neg (show ¬ ((start : Int).toNat) < x.cps.size from hlt)]
          exact last vs ps s.heap s.toks hl hv (by rw [if_neg hlt, List.append_nil]) fun _ _ _ e => e
      | some be =>
        obtain ⟨b, e₁⟩ := be
        cases m with
        | none => cases hm
        | some m =>
          have hm1 : m.start = b := by have := Option.some.inj hm; exact congrArg Prod.fst this
          have hm2 : m.handed = e₁ := by have := Option.some.inj hm; exact congrArg Prod.snd this
          dsimp only at e ⊢
          rw [hm1, hm2]
          cases hs' : subs code x.cps repl f e₁ (e₁ == b) with
          | none => rw [hs'] at e; cases e
          | some l =>
            rw [hs'] at e
            have e' := Option.some.inj e
            subst e'
            have hk0 : (n : Int) = n := rfl
            have go : ∀ (vs' : List Value) (ps' : List PySem.Str) (h' : Heap) (tk : Nat), h'.IsList Lp vs'.toArray → StrsAre vs' ps' → ps' = ps ++ (if start < b then [⟨x.cps.extract start b⟩] else []) →
                (∀ b o, b ≠ Lp → s.heap.get? b = some o → h'.get? b = some o) →
                wpAny (model prog w) A.in1 (do
                  let item ← (pure (Value.str repl tr) : Sem Value)
                  if (item != Value.none) = true then do
                    let __r ← updateSeq Lp fun x => x.push item
                    again (Code.builtin "re.Pattern.sub.loop" { pos := [Value.ref P, Value.str x t, Value.str repl tr, rawInt 0, rawInt 0, rawInt (n + 1), rawInt ↑e₁, rawInt ↑e₁, Value.bool (e₁ == b), Value.ref Lp, Value.bool false] })
                  else again (Code.builtin "re.Pattern.sub.loop" { pos := [Value.ref P, Value.str x t, Value.str repl tr, rawInt 0, rawInt 0, rawInt (n + 1), rawInt ↑e₁, rawInt ↑e₁, Value.bool (e₁ == b), Value.ref Lp, Value.bool false] }))
                  (fun fin s' => match fin with | PySem.Fin.done f => R (Except.ok f) s' | PySem.Fin.again c' => c'.quiet = true ∧ codeAny (model prog w) A c' R s') (fun e s' => R (Except.error e) s') { s with heap := h', toks := tk } := by
              intro vs' ps' h' tk hl' hv' he hk
              have hl2 : vs'.length = ps'.length := hv'.length
              refine wpAny_bind (wpAny_pure ?_)
              rw [if_pos (show (Value.str repl tr != Value.none) = true from rfl)]
              have hcount : ps'.length < 50000 := by
                subst he
                simp only [List.length_append, List.length_cons] at hn ⊢; omega
              refine wpAny_bind (wpAny_push (s := { s with heap := h', toks := tk }) hl' (by omega) ?_)
              obtain ⟨q1, q2⟩ := push_list (v := .str repl tr) hl'
              have e3 : (ps' ++ [repl]) ++ l = ps ++ ((if start < b then [⟨x.cps.extract start b⟩] else []) ++ repl :: l) := by subst he; simp
              have X' : Pat h' P code := X.keeps Lp (fun _ _ => trivial) ⟨_, hl⟩ hk
              refine wpAny_pure ⟨plainId_quiet plain_loop _, ih (n + 1) e₁ (e₁ == b) l _ _ { s with heap := h'.update Lp (Obj.mapSeq (·.push (.str repl tr))), toks := tk } R hs' (X'.keeps Lp (fun _ _ => trivial) ⟨_, hl'⟩ q2) q1 (strs_snoc' hv') (by rw [e3]; exact hn) (by rw [e3]; exact hs) fun h'' tk'' t' hk'' => ?_⟩
              rw [e3]
              exact hR h'' tk'' t' fun b o hb e => hk'' b o hb (q2 b o hb (hk b o hb e))
            by_cases hlt : start < b
            · rw [if_pos (show ((start : Int).toNat) < b from hlt)]
              refine wpAny_bind (wpAny_mkStr ?_ (by show (x.cps.extract start b).size ≤ sizeLine; rw [Array.size_extract, sizeLine_eq]; have : x.cps.size ≤ 10000 := hx; omega))
              have hn' : ps.length < 50000 := by rw [if_pos hlt] at hn; simp only [List.length_append, List.length_cons, List.length_nil] at hn; omega
              refine wpAny_bind (wpAny_push (s := { s with toks := s.toks + 1 }) hl (by omega) ?_)
              obtain ⟨q1, q2⟩ := push_list (v := .str ⟨x.cps.extract start b⟩ s.toks) hl
              exact go _ _ _ _ q1 (strs_snoc' hv) (by rw [if_pos hlt]) q2
            · rw [if_neg (show ¬ ((start : Int).toNat) < b from hlt)]
              exact go vs ps s.heap s.toks hl hv (by rw [if_neg hlt, List.append_nil]) fun _ _ _ e => e

theorem sub_call {code : Array Nat} {P : Addr} {x repl : PySem.Str} {t tr : Tok} {out : List PySem.Str} {Q : Value → Shared → Prop} (hx : x.length ≤ 10000) (hr : repl.cps.contains 92 = false)
    (e : subs code x.cps repl 100 0 false = some out) (X : Pat s.heap P code) (hn : out.length ≤ 50000) (hs : (out.map (·.length)).sum ≤ 10000000)
    (h : ∀ h' tk t', s.heap.StaysIn h' → Q (.str (PySem.Txt.join ⟨#[]⟩ out) t') { s with heap := h', toks := tk }) :
    wpAny (model prog w) A (call (.builtin "re.Pattern.sub") [.ref P, .str repl tr, .str x t]) Q E s := by
  refine wpAny_call ?_
  have hT : s.TypeIs (.ref P) "re.Pattern" := by
    obtain ⟨a0, a1, a3, a4, C, t2, t6, hP, _⟩ := X.pat
    exact ⟨_, hP, rfl⟩
  refine codeAny_call_builtin slot_sub.plain entry_sub (slot_sub.check _ _ _ _ _ _ _ _ hT (args_sub _ _ _) ?_)
  unfold Builtin.«re.Pattern.sub» reSubstitute
  dsimp only
  rw [named_sub]
  refine wpAny_bind (wpAny_pure ?_)
  dsimp only
  refine wpAny_bind (wpAny_pure ?_)
  refine wpAny_bind (wpAny_specialOf (T := "str") rfl str_nocall ?_)
  dsimp only [Option.isSome]
  rw [if_neg Bool.false_ne_true]
  refine wpAny_bind (wpAny_pure ?_)
  dsimp only
  refine wpAny_bind (wpAny_pure ?_)
  rw [if_neg Bool.false_ne_true]
  rw [if_pos (show (!repl.cps.contains 92) = true by rw [hr]; rfl)]
  refine wpAny_bind (wpAny_pure ?_)
  dsimp only
  refine wpAny_bind (wpAny_holding (wpAny_target X ?_))
  rw [if_neg (show ¬ (((0 : Int) == 1) = true) by decide)]
  refine wpAny_bind (wpAny_newObj_type ?_ (by size_fits))
  refine wpAny_pure ⟨plainId_quiet plain_loop _, ?_⟩
  have st : s.heap.StaysIn (s.heap.push { cls := .type "list", dict := none, data := .seq #[] }) := fun b o e => Heap.get?_push_of_some _ e
  have hl : (s.heap.push { cls := .type "list", dict := none, data := .seq #[] }).IsList s.heap.objs.size ([] : List Value).toArray := ⟨_, Heap.get?_push_size _ rfl, rfl, 0, rfl⟩
  have X' : Pat (s.heap.push { cls := .type "list", dict := none, data := .seq #[] }) P code := by
    obtain ⟨a0, a1, a3, a4, C, t2, t6, hP, o, items, n, hC, r⟩ := X.pat
    exact ⟨a0, a1, a3, a4, C, t2, t6, st _ _ hP, o, items, n, st _ _ hC, r⟩
  refine sub_loop (s := { s with heap := s.heap.push { cls := .type "list", dict := none, data := .seq #[] } }) hx 100 0 0 false out [] [] _ e X' hl .nil (by simpa using hn) (by simpa using hs) fun h' tk t' hk => ?_
  exact h h' tk t' fun b o e => hk b o (Nat.ne_of_lt (Heap.lt_size e)) (st b o e)

theorem subs_length {code text : Array Nat} {repl : PySem.Str} : ∀ (f start : Nat) (must : Bool) (out : List PySem.Str), subs code text repl f start must = some out → out.length ≤ 2 * f
  | 0, _, _, _, e => by cases e
  | f + 1, start, must, out, e => by
    unfold subs at e
    split at e
    · cases e
    · cases e; split <;> simp <;> omega
    · split at e
      · cases e
      · rename_i l hl
        cases e
        have := subs_length f _ _ _ hl
        split <;> simp <;> omega
theorem subAll_out {code text : Array Nat} {repl y : PySem.Str} (e : subAll code text repl = some y) (hy : y.length ≤ 10000) :
    ∃ out, subs code text repl 100 0 false = some out ∧ PySem.Txt.join ⟨#[]⟩ out = y ∧ out.length ≤ 50000 ∧ (out.map (·.length)).sum ≤ 10000000 := by
  unfold subAll at e
  cases h : subs code text repl 100 0 false with
  | none => rw [h] at e; cases e
  | some out =>
    rw [h] at e
    have e' : PySem.Txt.join ⟨#[]⟩ out = y := Option.some.inj e
    have h1 := subs_length _ _ _ _ h
    have h2 := len_join_ge_sum ⟨#[]⟩ out
    rw [e'] at h2
    exact ⟨out, rfl, e', by omega, by omega⟩

theorem sub_all {code : Array Nat} {P : Addr} {x repl y : PySem.Str} {t tr : Tok} {Q : Value → Shared → Prop} (X : Pat s.heap P code) (hr : repl.cps.contains 92 = false)
    (e : subAll code x.cps repl = some y) (hx : x.length ≤ 10000) (hy : y.length ≤ 10000)
    (h : ∀ h' tk t', s.heap.StaysIn h' → Q (.str y t') { s with heap := h', toks := tk }) :
    wpAny (model prog w) A (call (.builtin "re.Pattern.sub") [.ref P, .str repl tr, .str x t]) Q E s := by
  obtain ⟨out, h1, h2, h3, h4⟩ := subAll_out e hy
  refine sub_call hx hr h1 X h3 h4 ?_
  rw [h2]; exact h
theorem pat_K {K : Frag} {P C : Addr} {a0 a1 a3 a4 : Value} {t2 t6 : Tok} {items : Array Value} {n : Nat} {d : Option Addr} {sl : Array (Option Value)} {code : Array Nat} {h : Heap} (X : K.In h)
    (h1 : K.lookup P = some ⟨.type "re.Pattern", none, .fields #[a0, a1, .int 0 t2, a3, a4, .ref C, .int 0 t6], #[]⟩) (h2 : K.lookup C = some ⟨.type "tuple", d, .seq items n, sl⟩)
    (h3 : (items.map reRawOf).map (·.toNat) = code) : Pat h P code := ⟨a0, a1, a3, a4, C, t2, t6, X _ _ h1, _, items, n, X _ _ h2, rfl, rfl, h3⟩
theorem re_method {K : Frag} {P : Addr} {d : Data} {sl : Array (Option Value)} {pl : Sem Bool} {Q : Value × List Value → Shared → Prop} (X : K.In s.heap) (h1 : K.lookup P = some ⟨.type "re.Pattern", none, d, sl⟩)
    (h : Q (.builtin "re.Pattern.sub", [.ref P]) s) : wpAny (model prog w) A (getMethod (.ref P) (PySem.Str.ofString "sub") pl) Q E s :=
  getMethod_builtin (T := "re.Pattern") ⟨_, X _ _ h1, rfl⟩ attrs_pat slot_sub type_sub (fun a e => by cases e; exact ⟨_, X _ _ h1, rfl⟩) h

theorem sub_N {code : Array Nat} {P L : Addr} {h₀ : Heap} {m : PySem.Str → Option Value} {news : List (Addr × Obj)} {x repl y : PySem.Str} {t tr : Tok} {Q : Value → Shared → Prop} (F : Fr h₀ L s.heap m) (N : News h₀ L s.heap news) (X : Pat s.heap P code) (hr : repl.cps.contains 92 = false)
    (e : subAll code x.cps repl = some y) (hx : x.length ≤ 10000) (hy : y.length ≤ 10000)
    (h : ∀ h' tk t', Fr h₀ L h' m → News h₀ L h' news → Q (.str y t') { s with heap := h', toks := tk }) :
    wpAny (model prog w) A (call (.builtin "re.Pattern.sub") [.ref P, .str repl tr, .str x t]) Q E s :=
  sub_all X hr e hx hy fun h' tk t' st => h h' tk t' (keepsFr F st) (keepsNews N st)
end
end Mine
-- part Loop
namespace Mine

/-- the rest of a ledger that a fact tells -/
abbrev restOf {h₀ h : Heap} {L : Addr} {a : Addr × Obj} {l : List (Addr × Obj)} (_ : News h₀ L h (a :: l)) : List (Addr × Obj) := l

section
variable {prog : Program} {w : World} {A : Around} {E : Value → Shared → Prop} {s : Shared} {env : Env} {h₀ : Heap} {x : Str} {body : List Stmt} {Q : Flow → Shared → Prop}

/-- what the end of a turn must show: the next state -/
def TurnGo {σ : Type} (h₀ : Heap) (L I : Addr) (x : Str) (m₀ : Str → Option Value) (Led : σ → List (Addr × Obj)) (ps : σ → List (Str × Value)) (stored : List Str) (Inv : σ → Prop) (own : List (Addr × Obj)) (s₁ s₂ : Shared) : Prop :=
  ∃ h' tk m' c, s₂ = { s₁ with heap := h', toks := tk } ∧ Fr h₀ L h' m' ∧ News h₀ L h' (Led c ++ own) ∧ (∀ p ∈ Led c, p.1 ≠ I) ∧ (∀ p ∈ ps c, m' p.1 = some p.2) ∧
    (∀ z, z ≠ x → (∀ p ∈ ps c, z ≠ p.1) → stored.contains z = false → m' z = m₀ z) ∧ Inv c
def TurnEnd0 {σ : Type} (h₀ : Heap) (L I : Addr) (x : Str) (m₀ : Str → Option Value) (Led : σ → List (Addr × Obj)) (ps : σ → List (Str × Value)) (stored : List Str) (Inv : σ → Prop) (own : List (Addr × Obj)) (s₁ : Shared) (Q : Flow → Shared → Prop) (f : Flow) (s₂ : Shared) : Prop :=
  match f with
  | .ret v => Q (.ret v) s₂
  | .brk => Q .next s₂
  | _ => TurnGo h₀ L I x m₀ Led ps stored Inv own s₁ s₂
/-- the same, as a structure: the walker leaves it alone -/
structure TurnEnd {σ : Type} (h₀ : Heap) (L I : Addr) (x : Str) (m₀ : Str → Option Value) (Led : σ → List (Addr × Obj)) (ps : σ → List (Str × Value)) (stored : List Str) (Inv : σ → Prop) (own : List (Addr × Obj)) (s₁ : Shared) (Q : Flow → Shared → Prop) (f : Flow) (s₂ : Shared) : Prop where
  out : TurnEnd0 h₀ L I x m₀ Led ps stored Inv own s₁ Q f s₂

theorem loop_st {σ : Type} {I : Addr} {fp : List Addr} {n : Nat} {P : Nat → Value → Prop} {St : Nat → Heap → Prop} {m₀ : Str → Option Value} (Led : σ → List (Addr × Obj)) (ps : σ → List (Str × Value)) (stored : List Str) (Inv : Nat → σ → Prop) (c₀ : σ)
    (W : Walks prog w A I fp [I] n P St) (hL : env.locals ∉ fp) (hI : h₀.get? I = none) (hlive : ∀ i h, St i h → ∃ o, h.get? I = some o) (hst : St 0 s.heap) (F : Fr h₀ env.locals s.heap m₀) (N : News h₀ env.locals s.heap (Led c₀))
    (hn : ∀ p ∈ Led c₀, p.1 ≠ I) (hk : ∀ p ∈ ps c₀, m₀ p.1 = some p.2) (hi : Inv 0 c₀)
    (turn : ∀ i v (c : σ) (u : Str → Option Value) h tk own oI, i < n → P i v → Inv i c → (∀ p ∈ Led c, p.1 ≠ I) → (I, oI) ∈ own → (∀ p ∈ own, p.1 ∈ fp) →
      Fr h₀ env.locals h (fun y => if y = x then some v else kstB (fun z => if stored.contains z then u z else m₀ z) (ps c) y) → News h₀ env.locals h (Led c ++ own) →
      wpAny (model prog w) A (execs body env) (TurnEnd h₀ env.locals I x m₀ Led ps stored (Inv (i + 1)) own { s with heap := h, toks := tk } Q) E { s with heap := h, toks := tk })
    (done : ∀ (c : σ) (u : Str → Option Value) h tk, Inv n c → Fr h₀ env.locals h (fun y => if y = x then u y else kstB (fun z => if stored.contains z then u z else m₀ z) (ps c) y) → News h₀ env.locals h (Led c) → Q .next { s with heap := h, toks := tk }) :
    LoopAtV prog w A h₀ env x body Q E (.ref I) s := by
  let J : Nat → (Str → Option Value) → List (Addr × Obj) → Prop := fun i m news => ∃ c, news = Led c ∧ (∀ p ∈ ps c, m p.1 = some p.2) ∧ (∀ z, z ≠ x → (∀ p ∈ ps c, z ≠ p.1) → stored.contains z = false → m z = m₀ z) ∧ Inv i c
  refine ⟨I, fp, [I], n, P, St, m₀, Led c₀, J, rfl, W, hL, ?_, ?_, hst, F, N, ⟨c₀, rfl, hk, fun _ _ _ _ => rfl, hi⟩, ?_, ?_⟩
  · intro b hb; rw [List.mem_singleton.mp hb]; exact hI
  · intro p hp hm; exact hn p hp (List.mem_singleton.mp hm)
  · rintro i v m₁ news₁ s₁ own ⟨hh', tk', rfl⟩ hin hP ⟨c, rfl, h1, h2, hj⟩ hoff hown _ hall hst₁ F₁ N₁
    obtain ⟨oI, hoI⟩ := hlive _ _ hst₁
    have hoff' : ∀ p ∈ Led c, p.1 ≠ I := fun p hp e => hoff p hp (List.mem_singleton.mpr e)
    have hmem : (I, oI) ∈ own := hall I (W.sub _ (List.mem_singleton.mpr rfl)) hI oI hoI
    refine wpAny_mono (turn i v c m₁ hh' tk' own oI hin hP hj hoff' hmem hown (kst_fr h1 h2 F₁) (fun p hp => N₁ p ((List.mem_append.mp hp).elim (fun h => List.mem_append.mpr (.inr h)) fun h => List.mem_append.mpr (.inl h)))) (fun f s₂ z => ?_) fun _ _ e => e
    have fin : TurnGo h₀ env.locals I x m₀ Led ps stored (Inv (i + 1)) own { s with heap := hh', toks := tk' } s₂ → LoopStepU h₀ env.locals [I] own (J (i + 1)) { s with heap := hh', toks := tk' } .next s₂ := by
      rintro ⟨h', tk, m', c', e, F', N', ho, g1, g2, g3⟩
      exact ⟨rfl, h', tk, m', Led c', e, F', fun p hp => N' p ((List.mem_append.mp hp).elim (fun h => List.mem_append.mpr (.inr h)) fun h => List.mem_append.mpr (.inl h)), fun p hp hm => ho p hp (List.mem_singleton.mp hm), c', rfl, g1, g2, g3⟩
    replace z := z.out
    cases f with
    | ret v => exact .ret z
    | brk => exact .brk z
    | next => exact .next (fin z)
    | cont => exact .cont (fin z)
  · rintro h' tk m' news' F' N' _ ⟨c, rfl, h1, h2, hj⟩
    exact done c m' h' tk hj (kst_frOut h1 h2 F') N'

theorem iter_text {σ : Type} {xt : Str} {tx : Tok} {m₀ : Str → Option Value} (Led : σ → List (Addr × Obj)) (ps : σ → List (Str × Value)) (stored : List Str) (Inv : Nat → σ → Prop) (c₀ : σ)
    (hh : A.handled = none) (F : Fr h₀ env.locals s.heap m₀) (N : News h₀ env.locals s.heap (Led c₀)) (hk : ∀ p ∈ ps c₀, m₀ p.1 = some p.2) (hi : Inv 0 c₀)
    (turn : ∀ i (n : Nat) t (c : σ) (u : Str → Option Value) h tk own I oI, xt.cps[i]? = some n → Inv i c → (∀ p ∈ Led c, p.1 ≠ I) → (I, oI) ∈ own → (∀ p ∈ own, p.1 = I) →
      Fr h₀ env.locals h (fun y => if y = x then some (.str ⟨#[n]⟩ t) else kstB (fun z => if stored.contains z then u z else m₀ z) (ps c) y) → News h₀ env.locals h (Led c ++ own) →
      wpAny (model prog w) A (execs body env) (TurnEnd h₀ env.locals I x m₀ Led ps stored (Inv (i + 1)) own { s with heap := h, toks := tk } Q) E { s with heap := h, toks := tk })
    (done : ∀ (c : σ) (u : Str → Option Value) h tk, Inv xt.length c → Fr h₀ env.locals h (fun y => if y = x then u y else kstB (fun z => if stored.contains z then u z else m₀ z) (ps c) y) → News h₀ env.locals h (Led c) → Q .next { s with heap := h, toks := tk }) :
    wpAny (model prog w) A (pyIter (.str xt tx)) (fun it s₂ => LoopAtV prog w A h₀ env x body Q E it s₂) E s := by
  have go : ∀ (o : Obj) (St : Nat → Heap → Prop), Walks prog w A s.heap.objs.size [s.heap.objs.size] [s.heap.objs.size] xt.cps.size (SignAt xt) St → (∀ i h, St i h → ∃ o, h.get? s.heap.objs.size = some o) → St 0 (s.heap.push o) →
      LoopAtV prog w A h₀ env x body Q E (.ref s.heap.objs.size) { s with heap := s.heap.push o } := by
    intro o St W hl hst
    refine loop_st (s := { s with heap := s.heap.push o }) Led ps stored Inv c₀ W ?_ (next_is_new F) hl hst (F.push _) (fun p hp => ⟨Heap.get?_push_of_some _ (N p hp).1, (N p hp).2⟩) ?_ hk hi ?_ ?_
    · intro hm; exact absurd F.ns.lt ((List.mem_singleton.mp hm) ▸ Nat.lt_irrefl _)
    · intro p hp; exact Nat.ne_of_lt (Heap.lt_size (N p hp).1)
    · rintro i v c u h tk own oI hi ⟨n, t, hn, rfl⟩ hj ho hm hf F₁ N₁
      exact turn i n t c u h tk own _ oI hn hj ho hm (fun p hp => List.mem_singleton.mp (hf p hp)) F₁ N₁
    · intro c u h tk hj F₁ N₁
      exact done c u h tk hj F₁ N₁
  cases ha : xt.cps.all (· < 128)
  · exact wpAny_pyIter_wide ha (go _ _ (Walks.strWide hh _ xt tx) (fun i h ⟨o, ho, _⟩ => ⟨o, ho⟩) ⟨_, Heap.get?_push_size _ rfl, rfl, rfl⟩)
  · exact wpAny_pyIter_ascii ha (go _ _ (Walks.strAscii hh _ xt tx) (fun i h ⟨o, ho, _⟩ => ⟨o, ho⟩) ⟨_, Heap.get?_push_size _ rfl, rfl, rfl⟩)

theorem iter_list {σ : Type} {l : Addr} {vs : List Value} {m₀ : Str → Option Value} (Led : σ → List (Addr × Obj)) (ps : σ → List (Str × Value)) (stored : List Str) (Inv : Nat → σ → Prop) (c₀ : σ)
    (hh : A.handled = none) (hl : s.heap.IsList l vs.toArray) (hlL : l ≠ env.locals) (F : Fr h₀ env.locals s.heap m₀) (N : News h₀ env.locals s.heap (Led c₀)) (hk : ∀ p ∈ ps c₀, m₀ p.1 = some p.2) (hi : Inv 0 c₀)
    (turn : ∀ i v (c : σ) (u : Str → Option Value) h tk own I oI, vs[i]? = some v → Inv i c → (∀ p ∈ Led c, p.1 ≠ I) → (I, oI) ∈ own → (∀ p ∈ own, p.1 = I ∨ p.1 = l) →
      Fr h₀ env.locals h (fun y => if y = x then some v else kstB (fun z => if stored.contains z then u z else m₀ z) (ps c) y) → News h₀ env.locals h (Led c ++ own) →
      wpAny (model prog w) A (execs body env) (TurnEnd h₀ env.locals I x m₀ Led ps stored (Inv (i + 1)) own { s with heap := h, toks := tk } Q) E { s with heap := h, toks := tk })
    (done : ∀ (c : σ) (u : Str → Option Value) h tk, Inv vs.length c → Fr h₀ env.locals h (fun y => if y = x then u y else kstB (fun z => if stored.contains z then u z else m₀ z) (ps c) y) → News h₀ env.locals h (Led c) → Q .next { s with heap := h, toks := tk }) :
    wpAny (model prog w) A (pyIter (.ref l)) (fun it s₂ => LoopAtV prog w A h₀ env x body Q E it s₂) E s := by
  refine wpAny_pyIter_list hl ?_
  obtain ⟨ol, hol, _⟩ := id hl
  have hne : l ≠ s.heap.objs.size := Nat.ne_of_lt (Heap.lt_size hol)
  have W := Walks.list (prog := prog) (w := w) hh s.heap.objs.size l hne vs.toArray
  rw [List.size_toArray] at W
  refine loop_st (s := { s with heap := s.heap.push _ }) Led ps stored Inv c₀ W ?_ (next_is_new F) (fun i h ⟨⟨o, ho, _⟩, _⟩ => ⟨o, ho⟩) ⟨⟨_, Heap.get?_push_size _ rfl, rfl, rfl⟩, hl.at fun o e => Heap.get?_push_of_some _ e⟩ (F.push _) (fun p hp => ⟨Heap.get?_push_of_some _ (N p hp).1, (N p hp).2⟩) ?_ hk hi ?_ ?_
  · intro hm
    rcases List.mem_cons.mp hm with e | hm
    · exact absurd F.ns.lt (e ▸ Nat.lt_irrefl _)
    · exact hlL (List.mem_singleton.mp hm).symm
  · intro p hp; exact Nat.ne_of_lt (Heap.lt_size (N p hp).1)
  · intro i v c u h tk own oI hi hv hj ho hm hf F₁ N₁
    exact turn i v c u h tk own _ oI (by simpa using hv) hj ho hm (fun p hp => by simpa using hf p hp) F₁ N₁
  · intro c u h tk hj F₁ N₁
    exact done c u h tk hj F₁ N₁

theorem iter_range {σ : Type} {r : Addr} {a₀ b₀ : Int} {t₀ u₀ v₀ : Tok} {n : Nat} {m₀ : Str → Option Value} (Led : σ → List (Addr × Obj)) (ps : σ → List (Str × Value)) (stored : List Str) (Inv : Nat → σ → Prop) (c₀ : σ)
    (hh : A.handled = none) (hr : IsRange s.heap r a₀ b₀ 1 t₀ u₀ v₀) (hsmall : Builtin.Range.small a₀ b₀ 1 = true) (hn : Builtin.Range.rangeSize a₀ b₀ 1 = (n : Int)) (F : Fr h₀ env.locals s.heap m₀) (N : News h₀ env.locals s.heap (Led c₀)) (hk : ∀ p ∈ ps c₀, m₀ p.1 = some p.2) (hi : Inv 0 c₀)
    (turn : ∀ (i : Nat) t (c : σ) (u : Str → Option Value) h tk own I oI, i < n → Inv i c → (∀ p ∈ Led c, p.1 ≠ I) → (I, oI) ∈ own → (∀ p ∈ own, p.1 = I) →
      Fr h₀ env.locals h (fun y => if y = x then some (.int (a₀ + (i : Int)) t) else kstB (fun z => if stored.contains z then u z else m₀ z) (ps c) y) → News h₀ env.locals h (Led c ++ own) →
      wpAny (model prog w) A (execs body env) (TurnEnd h₀ env.locals I x m₀ Led ps stored (Inv (i + 1)) own { s with heap := h, toks := tk } Q) E { s with heap := h, toks := tk })
    (done : ∀ (c : σ) (u : Str → Option Value) h tk, Inv n c → Fr h₀ env.locals h (fun y => if y = x then u y else kstB (fun z => if stored.contains z then u z else m₀ z) (ps c) y) → News h₀ env.locals h (Led c) → Q .next { s with heap := h, toks := tk }) :
    wpAny (model prog w) A (pyIter (.ref r)) (fun it s₂ => LoopAtV prog w A h₀ env x body Q E it s₂) E s := by
  refine wpAny_pyIter_range hr hsmall ?_
  have W := Walks.range (prog := prog) (w := w) hh s.heap.objs.size a₀ 1 n
  refine loop_st (s := { s with heap := s.heap.push _ }) Led ps stored Inv c₀ W ?_ (next_is_new F) (fun i h ho => ⟨_, ho⟩) (by show IsRangeIter _ _ _ _ _; rw [hn]; simpa using Heap.get?_push_size _ rfl) (F.push _) (fun p hp => ⟨Heap.get?_push_of_some _ (N p hp).1, (N p hp).2⟩) ?_ hk hi ?_ ?_
  · intro hm; exact absurd F.ns.lt ((List.mem_singleton.mp hm) ▸ Nat.lt_irrefl _)
  · intro p hp; exact Nat.ne_of_lt (Heap.lt_size (N p hp).1)
  · rintro i v c u h tk own oI hi ⟨t, rfl⟩ hj ho hm hf F₁ N₁
    have e1 : a₀ + (i : Int) * 1 = a₀ + (i : Int) := by omega
    rw [e1] at F₁
    exact turn i t c u h tk own _ oI hi hj ho hm (fun p hp => List.mem_singleton.mp (hf p hp)) F₁ N₁
  · intro c u h tk hj F₁ N₁
    exact done c u h tk hj F₁ N₁

theorem iter_nil {l : Addr} {m₀ : Str → Option Value} {news : List (Addr × Obj)} (hh : A.handled = none) (hl : s.heap.IsList l ([] : List Value).toArray) (hlL : l ≠ env.locals) (F : Fr h₀ env.locals s.heap m₀) (N : News h₀ env.locals s.heap news)
    (done : ∀ (u : Str → Option Value) h tk, Fr h₀ env.locals h (fun y => if y = x then u y else m₀ y) → News h₀ env.locals h news → Q .next { s with heap := h, toks := tk }) :
    wpAny (model prog w) A (pyIter (.ref l)) (fun it s₂ => LoopAtV prog w A h₀ env x body Q E it s₂) E s := by
  refine iter_list (σ := Unit) (fun _ => news) (fun _ => []) [] (fun _ _ => True) () hh hl hlL F N (fun _ hp => nomatch hp) trivial (fun i v c u h tk own I oI hv => by simp at hv) fun c u h tk _ F₁ N₁ => done u h tk F₁ N₁
end
end Mine
-- part Loop2
namespace Mine
section
variable {prog : Program} {w : World} {A : Around} {E : Value → Shared → Prop} {s : Shared} {env : Env} {h₀ : Heap} {L : Addr} {x : Str} {Q : Flow → Shared → Prop}

/-- what the end of a turn of a while loop must show -/
def WTurn0 {σ : Type} (h₀ : Heap) (L : Addr) (x : Str) (m₀ : Str → Option Value) (Led : σ → List (Addr × Obj)) (ps : σ → List (Str × Value)) (stored : List Str) (Inv : Nat → σ → Prop) (n : Nat) (s₁ : Shared) (Q : Flow → Shared → Prop) (f : Flow) (s₂ : Shared) : Prop :=
  match f with
  | .ret v => Q (.ret v) s₂
  | .brk => Q .next s₂
  | _ => ∃ h' tk m' c n', s₂ = { s₁ with heap := h', toks := tk } ∧ n' < n ∧ Fr h₀ L h' m' ∧ News h₀ L h' (Led c) ∧ (∀ p ∈ ps c, m' p.1 = some p.2) ∧
    (∀ z, z ≠ x → (∀ p ∈ ps c, z ≠ p.1) → stored.contains z = false → m' z = m₀ z) ∧ Inv n' c
structure WTurn {σ : Type} (h₀ : Heap) (L : Addr) (x : Str) (m₀ : Str → Option Value) (Led : σ → List (Addr × Obj)) (ps : σ → List (Str × Value)) (stored : List Str) (Inv : Nat → σ → Prop) (n : Nat) (s₁ : Shared) (Q : Flow → Shared → Prop) (f : Flow) (s₂ : Shared) : Prop where
  out : WTurn0 h₀ L x m₀ Led ps stored Inv n s₁ Q f s₂

theorem WTurn.go {σ : Type} {m₀ : Str → Option Value} {Led : σ → List (Addr × Obj)} {ps : σ → List (Str × Value)} {stored : List Str} {Inv : Nat → σ → Prop} {n n' : Nat} {s₁ : Shared} {h' : Heap} {tk : Nat} {m' : Str → Option Value} (c : σ) (hn : n' < n)
    (F : Fr h₀ L h' m') (N : News h₀ L h' (Led c)) (hk : ∀ p ∈ ps c, m' p.1 = some p.2) (hr : ∀ z, z ≠ x → (∀ p ∈ ps c, z ≠ p.1) → stored.contains z = false → m' z = m₀ z) (hi : Inv n' c) :
    WTurn h₀ L x m₀ Led ps stored Inv n s₁ Q .next { s₁ with heap := h', toks := tk } := ⟨⟨h', tk, m', c, n', rfl, hn, F, N, hk, hr, hi⟩⟩

theorem while_st {σ : Type} {test : Expr} {body : List Stmt} {pos : Pos} {m₀ : Str → Option Value} (x : Str) (Led : σ → List (Addr × Obj)) (ps : σ → List (Str × Value)) (stored : List Str) (Inv : Nat → σ → Prop) (c₀ : σ) (n₀ : Nat)
    (F : Fr h₀ L s.heap m₀) (N : News h₀ L s.heap (Led c₀)) (hk : ∀ p ∈ ps c₀, m₀ p.1 = some p.2) (hi : Inv n₀ c₀)
    (turn : ∀ n (c : σ) (u : Str → Option Value) h tk, Inv n c → Fr h₀ L h (fun y => if y = x then u y else kstB (fun z => if stored.contains z then u z else m₀ z) (ps c) y) → News h₀ L h (Led c) →
      wpAny (model prog w) A (isTrue test env (eval test env)) (fun b s₂ =>
        if b = true then wpAny (model prog w) A (execs body env) (WTurn h₀ L x m₀ Led ps stored Inv n s Q) E s₂ else Q .next s₂) E { s with heap := h, toks := tk })
    (hE : PassesOwn (model prog w) A env E := by passes_own) :
    wpAny (model prog w) A (exec (.While test body [] pos) env) Q E s := by
  refine While_inv2 (fun n m news => ∃ c, news = Led c ∧ (∀ p ∈ ps c, m p.1 = some p.2) ∧ (∀ z, z ≠ x → (∀ p ∈ ps c, z ≠ p.1) → stored.contains z = false → m z = m₀ z) ∧ Inv n c) F N ⟨c₀, rfl, hk, fun _ _ _ _ => rfl, hi⟩ ?_ hE
  rintro n m₁ news₁ h₁ tk₁ F₁ N₁ ⟨c, rfl, h1, h2, hj⟩
  refine wpAny_mono (turn n c m₁ h₁ tk₁ hj (kst_frOut h1 h2 F₁) N₁) (fun b s₂ z => ?_) fun _ _ e => e
  cases b with
  | false => exact z
  | true =>
    simp only [if_true] at z ⊢
    refine wpAny_mono z (fun f s₃ z => ?_) fun _ _ e => e
    replace z := z.out
    cases f with
    | ret v => exact z
    | brk => exact z
    | next => obtain ⟨h', tk, m', c', n', e, hn, F', N', g1, g2, g3⟩ := z; exact ⟨h', tk, m', _, n', e, F', N', hn, c', rfl, g1, g2, g3⟩
    | cont => obtain ⟨h', tk, m', c', n', e, hn, F', N', g1, g2, g3⟩ := z; exact ⟨h', tk, m', _, n', e, F', N', hn, c', rfl, g1, g2, g3⟩
end
end Mine
namespace Mine
/-- a goal that the walker leaves alone -/
structure Hold (P : Prop) : Prop where
  out : P
theorem Hold.stop {P : Prop} (h : Hold P) : P := h.out
theorem Hold.go {P : Prop} (h : P) : Hold P := ⟨h⟩
end Mine
namespace Mine
abbrev front4 {h₀ h : Heap} {L : Addr} {a b c d : Addr × Obj} {l : List (Addr × Obj)} (_ : News h₀ L h (a :: b :: c :: d :: l)) : List (Addr × Obj) := [a, b, c, d]
abbrev back5 {h₀ h : Heap} {L : Addr} {a b c d e : Addr × Obj} {l : List (Addr × Obj)} (_ : News h₀ L h (a :: b :: c :: d :: e :: l)) : List (Addr × Obj) := l
end Mine
-- part Rules
namespace Mine
theorem TurnEnd.go {σ : Type} {h₀ : Heap} {L I : Addr} {x : Str} {m₀ : Str → Option Value} {Led : σ → List (Addr × Obj)} {ps : σ → List (Str × Value)} {stored : List Str} {Inv : σ → Prop} {own : List (Addr × Obj)} {s₁ : Shared} {Q : Flow → Shared → Prop} {h' : Heap} {tk : Nat} {m' : Str → Option Value} (c : σ)
    (F : Fr h₀ L h' m') (N : News h₀ L h' (Led c ++ own)) (ho : ∀ p ∈ Led c, p.1 ≠ I) (hk : ∀ p ∈ ps c, m' p.1 = some p.2) (hr : ∀ z, z ≠ x → (∀ p ∈ ps c, z ≠ p.1) → stored.contains z = false → m' z = m₀ z) (hi : Inv c) :
    TurnEnd h₀ L I x m₀ Led ps stored Inv own s₁ Q .next { s₁ with heap := h', toks := tk } := ⟨⟨h', tk, m', c, rfl, F, N, ho, hk, hr, hi⟩⟩
theorem TurnEnd.goc {σ : Type} {h₀ : Heap} {L I : Addr} {x : Str} {m₀ : Str → Option Value} {Led : σ → List (Addr × Obj)} {ps : σ → List (Str × Value)} {stored : List Str} {Inv : σ → Prop} {own : List (Addr × Obj)} {s₁ : Shared} {Q : Flow → Shared → Prop} {h' : Heap} {tk : Nat} {m' : Str → Option Value} (c : σ)
    (F : Fr h₀ L h' m') (N : News h₀ L h' (Led c ++ own)) (ho : ∀ p ∈ Led c, p.1 ≠ I) (hk : ∀ p ∈ ps c, m' p.1 = some p.2) (hr : ∀ z, z ≠ x → (∀ p ∈ ps c, z ≠ p.1) → stored.contains z = false → m' z = m₀ z) (hi : Inv c) :
    TurnEnd h₀ L I x m₀ Led ps stored Inv own s₁ Q .cont { s₁ with heap := h', toks := tk } := ⟨⟨h', tk, m', c, rfl, F, N, ho, hk, hr, hi⟩⟩
structure WSt where
  cnt : List Int
  b : Int
  n : Int
  nt : Int
structure WsKeys where
  k1 : Tok
  k2 : Tok
  k3 : Tok
  k4 : Tok
  k5 : Tok
  t : Tok
  tn : Tok
  tnt : Tok
  tb : Tok
abbrev tupObj (vs : Array Value) : Obj := { cls := .type "tuple", data := .seq vs }
abbrev wsEs (P : Params) (raw : Str) (st : WSt) (tn : Addr) (k : WsKeys) : List DictEntry :=
  [{ hash := PyData.keyHash P (Str.ofString "raw"), key := .str (Str.ofString "raw") k.k1, val := .str raw k.t }, { hash := PyData.keyHash P (Str.ofString "n"), key := .str (Str.ofString "n") k.k2, val := .int st.n k.tn },
   { hash := PyData.keyHash P (Str.ofString "nt"), key := .str (Str.ofString "nt") k.k3, val := .int st.nt k.tnt }, { hash := PyData.keyHash P (Str.ofString "norm"), key := .str (Str.ofString "norm") k.k4, val := .ref tn },
   { hash := PyData.keyHash P (Str.ofString "is_simple"), key := .str (Str.ofString "is_simple") k.k5, val := .bool (decide ((st.cnt.length : Int) ≤ 1)) }]
/-- what Whitespace(..) makes -/
abbrev wsLed (P : Params) (C x dx tn tc : Addr) (vs : List Value) (raw : Str) (st : WSt) (k : WsKeys) : List (Addr × Obj) :=
  [(tn, tupObj #[.ref tc, .int st.b k.tb]), (tc, tupObj vs.toArray), (x, instObj C dx), (dx, dictOf (wsEs P raw st tn k) 5)]
def WsMade (P : Params) (C : Addr) (raw : Str) (st : WSt) (h : Heap) (v : Value) (h' : Heap) : Prop :=
  ∃ x dx tn tc vs k, v = .ref x ∧ Made h h' (wsLed P C x dx tn tc vs raw st k) ∧ IntsAre vs st.cnt ∧ @LT.lt Nat _ tc tn ∧ @LT.lt Nat _ x tc ∧ @LT.lt Nat _ dx x
theorem WsMade.base {P : Params} {C : Addr} {raw : Str} {st : WSt} {h0 h h' : Heap} {v : Value} (Y : WsMade P C raw st h v h') (hz : h0.objs.size ≤ h.objs.size) : WsMade P C raw st h0 v h' := by
  obtain ⟨x, dx, tn, tc, vs, k, e, M, r⟩ := Y
  exact ⟨x, dx, tn, tc, vs, k, e, fun p hp => ⟨(M p hp).1, Nat.le_trans hz (M p hp).2⟩, r⟩
theorem made_of {h h' h₀ : Heap} {L : Addr} {l l' : List (Addr × Obj)} (N : News h₀ L h' l') (hs : l.Sublist l') (hz : ∀ p ∈ l, h.objs.size ≤ p.1) : Made h h' l := fun p hp => ⟨(N p (hs.subset hp)).1, hz p hp⟩
section
variable {h₀ h : Heap} {L : Addr} {l l' : List (Addr × Obj)}
theorem news_sub (N : News h₀ L h l) (hs : l'.Sublist l) : News h₀ L h l' := fun p hp => N p (hs.subset hp)
theorem allLt_iff {D : Addr} : ∀ l : List (Addr × Obj), AllLt D l ↔ ∀ p ∈ l, p.1 < D := by
  intro l
  induction l with
  | nil => exact ⟨fun _ _ h => (nomatch h), fun _ => trivial⟩
  | cons q r ih =>
    constructor
    · intro h p hp
      rcases List.mem_cons.mp hp with e | hp
      · rw [e]; exact h.1
      · exact ih.mp h.2 p hp
    · intro h
      exact ⟨h q (List.mem_cons_self ..), ih.mpr fun p hp => h p (List.mem_cons_of_mem _ hp)⟩
theorem allLt_mem {D : Addr} {l : List (Addr × Obj)} {p : Addr × Obj} (h : AllLt D l) (hp : p ∈ l) : p.1 < D := (allLt_iff l).mp h p hp
theorem ne_of_all {D : Addr} {l l' : List (Addr × Obj)} (h : ∀ p ∈ l, p.1 < D) (hs : ∀ p ∈ l', p ∈ l) : ∀ p ∈ l', p.1 ≠ D := fun p hp => Nat.ne_of_lt (h p (hs p hp))
/-- the list that heads a ledger -/
abbrev lstOf {D : Addr} {vs : List Value} {n : Nat} (_ : News h₀ L h ((D, W.listOf vs.toArray n) :: l)) : Addr × List Value × Nat := (D, vs, n)
end
section
variable {prog : Program} {w : World} {A : Around} {E : Value → Shared → Prop} {s : Shared} {h₀ : Heap} {L D D2 : Addr} {m : Str → Option Value} {news : List (Addr × Obj)} {vs ws : List Value} {ns ms : List Int} {n n2 : Nat} {k : Int} {u : Tok} {Q : Value → Shared → Prop}
theorem len_I (N : News h₀ L s.heap news) (hm : (D, W.listOf vs.toArray n) ∈ news) (hi : IntsAre vs ns) (hz : ns.length ≤ 100000)
    (h : ∀ t tk, Q (.int (ns.length : Int) t) { s with toks := tk }) : wpAny (model prog w) A (call (.builtin "len") [.ref D]) Q E s := by
  refine len_list (News.isList N hm) (by rw [List.size_toArray, hi.length]; omega) ?_
  rw [List.size_toArray, hi.length]; exact h _ _
theorem add_I (F : Fr h₀ L s.heap m) (N : News h₀ L s.heap news) (hm : (D, W.listOf vs.toArray n) ∈ news) (hm2 : (D2, W.listOf ws.toArray n2) ∈ news) (hi : IntsAre vs ns) (hj : IntsAre ws ms) (hz : ns.length + ms.length ≤ 100000)
    (h : ∀ D' h', Fr h₀ L h' m → News h₀ L h' ((D', W.listOf (vs ++ ws).toArray 0) :: news) → IntsAre (vs ++ ws) (ns ++ ms) → (∀ p ∈ news, p.1 < D') → Q (.ref D') { s with heap := h' }) :
    wpAny (model prog w) A (binaryOp .Add (.ref D) (.ref D2)) Q E s :=
  add_lists_ints F N (News.isList N hm) (News.isList N hm2) hi hj (fun h' F' N' hi' => h _ h' F' N' hi' fun p hp => Heap.lt_size (N p hp).1) (by rw [sizeLine_eq]; omega)
theorem ints_rep (t : Tok) (x : Int) : ∀ k : Nat, IntsAre (List.replicate k (.int x t)) (List.replicate k x)
  | 0 => .nil
  | k + 1 => .cons _ _ (ints_rep t x k)
theorem flat_rep {α : Type} (v : α) : ∀ k : Nat, (List.replicate k [v]).flatten = List.replicate k v
  | 0 => rfl
  | k + 1 => by rw [List.replicate_succ, List.flatten_cons, flat_rep v k]; rfl
theorem mul_I {x : Int} {t : Tok} (F : Fr h₀ L s.heap m) (N : News h₀ L s.heap news) (hm : (D, W.listOf #[.int x t] n) ∈ news) (h0 : 0 ≤ k) (hz : k ≤ 250)
    (h : ∀ D' h' ws, Fr h₀ L h' m → News h₀ L h' ((D', W.listOf ws.toArray 0) :: news) → IntsAre ws (List.replicate k.toNat x) → (∀ p ∈ news, p.1 < D') → Q (.ref D') { s with heap := h' }) :
    wpAny (model prog w) A (binaryOp .Mult (.ref D) (.int k u)) Q E s :=
  KMa.mul (vs := [.int x t]) F N (News.isList (items := #[.int x t]) N hm) (by omega) (by omega) (by show 1 * k.toNat ≤ 256; omega) (flat_rep _ _) fun D' h' F' N' hl => h D' h' _ F' N' (ints_rep _ _ _) hl
theorem tuple_I (F : Fr h₀ L s.heap m) (N : News h₀ L s.heap news) (hm : (D, W.listOf vs.toArray n) ∈ news) (hi : IntsAre vs ns) (hz : ns.length ≤ 16384)
    (h : ∀ D' h', Fr h₀ L h' m → News h₀ L h' ((D', ({ cls := .type "tuple", data := .seq vs.toArray } : Obj)) :: news) → (∀ p ∈ news, p.1 < D') → Q (.ref D') { s with heap := h' }) : wpAny (model prog w) A (call (.type "tuple") [.ref D]) Q E s :=
  kde_tupleOf F N (News.isList N hm) (by rw [List.size_toArray, hi.length]; exact hz) rfl h
end
end Mine
namespace Mine
theorem rev_str (x : Str) (u : Tok) : Txt.sliceBy x none none (-1, u) = ⟨x.cps.toList.reverse.toArray⟩ := by
  unfold Txt.sliceBy
  have h : ((((some ((-1 : Int), u)).map (·.1)).getD 1 == 1 && (slicePicked x none none (some (-1, u))).length == x.length) = true) = False := by simp
  rw [if_neg (by rw [h]; exact fun q => q)]
  have e : slicePicked x none none (some (-1, u)) = (List.range x.cps.size).reverse := by
    unfold slicePicked
    show (match PySem.sliceBounds none none (some (-1)) x.length with | (a, b, c) => PySem.sliceRange a b c) = _
    rw [krv_bounds]
    show PySem.sliceRange ((x.length : Int) - 1) (-1) (-1) = _
    rw [krv_sliceRange, krv_range]; rfl
  rw [e, List.filterMap_reverse, krv_all]
section
variable {prog : Program} {w : World} {A : Around} {E : Value → Shared → Prop} {s : Shared} {value slice : Expr} {x : Str} {t : Tok} {h₀ : Heap} {L : Addr} {m : Str → Option Value} {news : List (Addr × Obj)} {Q : Value → Shared → Prop} {uk : Tok}
theorem rev_N (hF : Fr h₀ L s.heap m) (hN : News h₀ L s.heap news) (hsz : x.length ≤ 10000) (h : ∀ h' t' c, Fr h₀ L h' m → News h₀ L h' news → Q (.str ⟨x.cps.toList.reverse.toArray⟩ t') { s with heap := h', toks := c })
    (hs : subscripted slice false (.str x t) (.ref s.heap.objs.size) = operate [.ref s.heap.objs.size, .str x t] (getItem (.str x t) (.ref s.heap.objs.size)) := by with_unfolding_all rfl)
    (ht : ∀ r, letTemporaryGo value (.str x t) r = pure () := by intro _; with_unfolding_all rfl) :
    wpAny (model prog w) A (subscriptTail value slice (.str x t) (.ref s.heap.objs.size)) Q E { s with heap := s.heap.push { cls := .type "slice", data := .fields #[.none, .none, .int (-1) uk] } } :=
  slice_strK_nn hF hN (by decide) (fun h' t' c F' N' => by rw [rev_str]; exact h h' t' c F' N') hs ht (by rw [sizeLine_eq]; omega)
end
end Mine
namespace Mine
section
variable {prog : Program} {w : World} {A : Around} {E : Value → Shared → Prop} {s : Shared} {h₀ : Heap} {L : Addr} {m : Str → Option Value} {news : List (Addr × Obj)} {x y z : Str} {t u v : Tok} {Q : Value → Shared → Prop}
theorem replace_T (F : Fr h₀ L s.heap m) (N : News h₀ L s.heap news) (ht : 1 ≤ s.toks) (hu : @Ne Nat u 0) (hv : @Ne Nat v 0) (huv : @Ne Nat u v) (hyz : (y == z) = false) (hb : x.length + (x.length + 1) * z.length ≤ 16777216)
    (hq : ∀ t' k, 1 ≤ k → Q (.str (Txt.replace x y z) t') { s with toks := k }) : wpAny (model prog w) A (call (.builtin "str.replace") [.str x t, .str y u, .str z v]) Q E s :=
  wpAny_with_toks (n := 1) ht (SC.replace hu hv huv hyz hb fun t' k hk => hq t' k hk)
end
end Mine
-- part Rules2
namespace Mine
section
variable {prog : Program} {w : World} {A : Around} {E : Value → Shared → Prop} {s : Shared} {h₀ : Heap} {L : Addr} {m : Str → Option Value} {news : List (Addr × Obj)} {x y : Str} {t u : Tok} {value slice : Expr}
theorem add_T {Q : Value → Shared → Prop} (h : ∀ t' tk, (x ++ y).length = x.length + y.length → Q (.str (x ++ y) t') { s with toks := tk }) (hz : x.length + y.length ≤ 1000) : wpAny (model prog w) A (binaryOp .Add (.str x t) (.str y u)) Q E s :=
  add_str (fun t' tk => h t' tk (Str.length_append x y)) (Nat.le_trans hz (by decide))
end
end Mine
-- part L1h
namespace Mine
abbrev Pure1 (w : World) (d u : Nat) (f : Addr) (vs : List Value) (R : Heap → Value → Heap → Prop) : Prop := PureCall PySem.Challenge.rw_pg0197_01.row.prog w (hd01.heap_39 w.params) hd01.view_39 (looseW hd01.view_39 [Str.ofString "_twin_re_1", Str.ofString "_twin_re_2", Str.ofString "Whitespace"]) d u f vs R
abbrev PureT1 (w : World) (d u : Nat) (f : Addr) (vs : List Value) (R : Heap → Value → Heap → Prop) : Prop := PureCallT PySem.Challenge.rw_pg0197_01.row.prog w (hd01.heap_39 w.params) hd01.view_39 (looseW hd01.view_39 [Str.ofString "_twin_re_1", Str.ofString "_twin_re_2", Str.ofString "Whitespace"]) d u f vs R
end Mine
-- part Mail
namespace Mine
def rowsTxt (r : List Nat) : List Nat := (r.map fun n => List.replicate n 46 ++ [13, 10]).flatten
def mailOf (r : List Nat) : Str := ⟨(rowsTxt r).toArray⟩
def mailStep (r : List Nat) (c : Nat) : List Nat := if c = 97 then r.map (· + 1) else 1 :: r
def mailRows (l : List Nat) : List Nat := l.foldl mailStep []
def leadTxt (r : List Nat) : List Nat := (r.map fun n => List.replicate n 32 ++ [9]).flatten
def leadOf (r : List Nat) : Str := ⟨(leadTxt r).toArray⟩
theorem lit_row : Str.ofString ".\x0d\n" = ⟨#[46, 13, 10]⟩ := by decide +kernel
theorem mail_cons (r : List Nat) : Str.ofString ".\x0d\n" ++ mailOf r = mailOf (1 :: r) := by
  rw [lit_row]
  refine PySem.Str.ext' (Array.toList_inj.mp ?_)
  rw [PySem.Str.cps_append, Array.toList_append]
  show [46, 13, 10] ++ rowsTxt r = rowsTxt (1 :: r)
  unfold rowsTxt
  rw [List.map_cons, List.flatten_cons]; rfl
theorem mail_snoc (l : List Nat) (i c : Nat) (h : l[i]? = some c) : mailRows (l.take (i + 1)) = mailStep (mailRows (l.take i)) c := by
  unfold mailRows
  rw [List.take_add_one, h]
  simp
/-- what bounds a mail -/
theorem mail_le : ∀ (l : List Nat) (r : List Nat) (k : Nat), r.length ≤ k → (∀ n ∈ r, n ≤ k) → (l.foldl mailStep r).length ≤ k + l.length ∧ ∀ n ∈ l.foldl mailStep r, n ≤ k + l.length
  | [], r, k, h1, h2 => ⟨h1, h2⟩
  | c :: l, r, k, h1, h2 => by
    rw [List.foldl_cons, List.length_cons]
    have key : (mailStep r c).length ≤ k + 1 ∧ ∀ n ∈ mailStep r c, n ≤ k + 1 := by
      unfold mailStep
      split
      · refine ⟨by rw [List.length_map]; omega, fun n hn => ?_⟩
        obtain ⟨m, hm, rfl⟩ := List.mem_map.mp hn
        have := h2 m hm; omega
      · refine ⟨by rw [List.length_cons]; omega, fun n hn => ?_⟩
        rcases List.mem_cons.mp hn with rfl | hn
        · omega
        · have := h2 n hn; omega
    have := mail_le l (mailStep r c) (k + 1) key.1 key.2
    exact ⟨by omega, fun n hn => by have := this.2 n hn; omega⟩
theorem rows_len (k : Nat) : ∀ r : List Nat, (∀ n ∈ r, n ≤ k) → (rowsTxt r).length ≤ r.length * (k + 2)
  | [], _ => Nat.zero_le _
  | n :: r, h => by
    have ih := rows_len k r fun m hm => h m (List.mem_cons_of_mem _ hm)
    have hn := h n (List.mem_cons_self ..)
    have e : (n :: r).length * (k + 2) = r.length * (k + 2) + (k + 2) := by rw [List.length_cons, Nat.succ_mul]
    rw [e]
    have e2 : rowsTxt (n :: r) = List.replicate n 46 ++ ([13, 10] ++ rowsTxt r) := by
      unfold rowsTxt
      rw [List.map_cons, List.flatten_cons, List.append_assoc]
    rw [e2, List.length_append, List.length_append, List.length_replicate]
    show n + (2 + _) ≤ _
    omega
theorem mail_len (l : List Nat) (hl : l.length ≤ 10) : (mailOf (mailRows l)).length ≤ 120 := by
  have h := mail_le l [] 0 (Nat.le_refl _) (fun n hn => nomatch hn)
  have h2 := rows_len (0 + l.length) (mailRows l) h.2
  show (rowsTxt (mailRows l)).toArray.size ≤ 120
  rw [List.size_toArray]
  have h1 : (mailRows l).length ≤ 10 := by have := h.1; unfold mailRows; omega
  have : (mailRows l).length * (0 + l.length + 2) ≤ 10 * 12 := Nat.mul_le_mul h1 (by omega)
  omega
def midTxt (r : List Nat) : List Nat := (r.map fun n => List.replicate n 32 ++ [13, 10]).flatten
def midOf (r : List Nat) : Str := ⟨(midTxt r).toArray⟩
theorem mid_len : ∀ r : List Nat, (midTxt r).length = (rowsTxt r).length
  | [] => rfl
  | n :: r => by
    have e1 : midTxt (n :: r) = List.replicate n 32 ++ ([13, 10] ++ midTxt r) := by unfold midTxt; rw [List.map_cons, List.flatten_cons, List.append_assoc]
    have e2 : rowsTxt (n :: r) = List.replicate n 46 ++ ([13, 10] ++ rowsTxt r) := by unfold rowsTxt; rw [List.map_cons, List.flatten_cons, List.append_assoc]
    rw [e1, e2, List.length_append, List.length_append, List.length_append, List.length_append, List.length_replicate, List.length_replicate, mid_len r]
theorem midOf_len (r : List Nat) : (midOf r).length = (mailOf r).length := by
  show (midTxt r).toArray.size = (rowsTxt r).toArray.size
  rw [List.size_toArray, List.size_toArray, mid_len]
theorem lead_chars : ∀ r : List Nat, ∀ c ∈ leadTxt r, c = 32 ∨ c = 9
  | [], _, h => nomatch h
  | n :: r, c, h => by
    have e1 : leadTxt (n :: r) = List.replicate n 32 ++ ([9] ++ leadTxt r) := by unfold leadTxt; rw [List.map_cons, List.flatten_cons, List.append_assoc]
    rw [e1] at h
    rcases List.mem_append.mp h with h | h
    · exact .inl (List.eq_of_mem_replicate h)
    · rcases List.mem_append.mp h with h | h
      · exact .inr (List.mem_singleton.mp h)
      · exact lead_chars r c h
theorem lead_lenT : ∀ r : List Nat, (leadTxt r).length ≤ (rowsTxt r).length
  | [] => Nat.le_refl _
  | n :: r => by
    have e1 : leadTxt (n :: r) = List.replicate n 32 ++ ([9] ++ leadTxt r) := by unfold leadTxt; rw [List.map_cons, List.flatten_cons, List.append_assoc]
    have e2 : rowsTxt (n :: r) = List.replicate n 46 ++ ([13, 10] ++ rowsTxt r) := by unfold rowsTxt; rw [List.map_cons, List.flatten_cons, List.append_assoc]
    have ih := lead_lenT r
    rw [e1, e2, List.length_append, List.length_append, List.length_append, List.length_append, List.length_replicate, List.length_replicate]
    simp only [List.length_cons, List.length_nil]
    omega
theorem leadOf_len (r : List Nat) : (leadOf r).length ≤ (mailOf r).length := by
  show (leadTxt r).toArray.size ≤ (rowsTxt r).toArray.size
  rw [List.size_toArray, List.size_toArray]; exact lead_lenT r
theorem leadOf_chars (r : List Nat) : ∀ c ∈ (leadOf r).cps.toList, c = 32 ∨ c = 9 := lead_chars r
end Mine
-- part Kq1
namespace Mine
section
theorem off_Kq1 : True := by w_top off; trivial
local macro_rules | `(tactic| walk_at "EndP") => `(tactic| (refine EndP.intro (Fr.keep (by assumption)) ?_))
local macro_rules | `(tactic| walk_at "p_enter") => `(tactic| (
  unfold Pure1
  k_fill
  intro gd env outer A₀ base h₀ L m s mean mg mb B F X T hf hk
  refine' pure_enter B F X T ?kA hf hk ?k6 ?k7 ?k8 ?k9 ?kB ?_ ?c2 ?c3 ?c4 ?c5; (case kA => exact rfl);  (case k6 => k_is); (case k7 => k_is); (case k8 => exact Nat.le_of_ble_eq_true rfl); (case k9 => exact BindsTo.of_eq rfl); (case c5 => decide); (case kB => exact locs rfl); (case c2 => exact rfl); (case c3 => exact rfl); (case c4 => exact rfl); 
  clear hf hk F X T B; intro L' h' F' N' B' X' T'; (try dsimp only); (try k_fold)))
local macro_rules | `(tactic| walk_at "p_enterT") => `(tactic| (
  unfold PureT1
  k_fill
  intro gd env outer A₀ base h₀ L m s mean mg mb tT B F X T hf hk
  refine' pure_enterT tT B F X T ?kA hf hk ?k6 ?k7 ?k8 ?k9 ?kB ?_ ?c2 ?c3 ?c4 ?c5; (case kA => exact rfl);  (case k6 => k_is); (case k7 => k_is); (case k8 => exact Nat.le_of_ble_eq_true rfl); (case k9 => exact BindsTo.of_eq rfl); (case c5 => decide); (case kB => exact locs rfl); (case c2 => exact rfl); (case c3 => exact rfl); (case c4 => exact rfl); 
  clear hf hk F X T B tT; intro L' h' tk0 tT F' N' B' X' T'; (try dsimp only); (try k_fold)))
abbrev crlf : Str := Str.ofString "\x0d\n"
abbrev dots : Str := Str.ofString ".."
def code1 : Array Nat := #[14, 4, 0, 1, 1, 6, 1, 16, 46, 1]
def code2 : Array Nat := #[14, 9, 4, 1, 2, 16, 10, 16, 13, 0, 7, 7, 16, 13, 16, 10, 15, 18, 5, 16, 10, 15, 13, 11, 16, 13, 5, 5, 0, 16, 10, 1, 15, 2, 0, 1]
local macro_rules | `(tactic| walk_at "getMethod ref") => `(tactic| (k_here; k_dflt (refine' re_method ?X ?l ?_; (case X => k_in); (case l => k_is); k_whole)))
local macro_rules | `(tactic| walk_at "call builtin:re.Pattern.sub") => `(tactic| (k_here; first
  | (refine' sub_N ?F ?N (pat_K ?X (P := 55) (C := 54) ?l1 ?l2 (code := code2) ?l3) ?r (by assumption) ?s1 ?s2 ?_; (case F => k_asm); (case N => k_asm); (case X => k_in); (case l1 => k_is); (case l2 => k_is); (case l3 => decide +kernel); (case r => decide +kernel); (case s1 => omega); (case s2 => omega); intro h' tk' t' F' N')
  | (refine' sub_N ?F ?N (pat_K ?X (P := 50) (C := 49) ?l1 ?l2 (code := code1) ?l3) ?r (by assumption) ?s1 ?s2 ?_; (case F => k_asm); (case N => k_asm); (case X => k_in); (case l1 => k_is); (case l2 => k_is); (case l3 => decide +kernel); (case r => decide +kernel); (case s1 => omega); (case s2 => omega); intro h' tk' t' F' N')))
theorem quo (w : World) (data mid out : Str) (t1 : Tok) (e2 : subAll code2 data.cps crlf = some mid) (e1 : subAll code1 mid.cps dots = some out) (s0 : data.length ≤ 10000) (s1 : mid.length ≤ 10000) (s2 : out.length ≤ 10000) :
    Pure1 w 600 6000 62 [.str data t1] (fun _ v _ => ∃ t, v = .str out t) := by
  walk_at "p_enter"
  k_steps
end
end Mine
-- part Ki1
namespace Mine
section
theorem off_Ki1 : True := by w_top off; trivial
local macro_rules | `(tactic| walk_at "zq") => `(tactic| skip)
local macro_rules | `(tactic| walk_at "zq") => `(tactic| skip)
local macro_rules | `(tactic| walk_at "zq") => `(tactic| skip)
local macro_rules | `(tactic| walk_at "zq") => `(tactic| skip)
local macro_rules | `(tactic| walk_at "zq") => `(tactic| skip)
local macro_rules | `(tactic| walk_at "zq") => `(tactic| skip)
local macro_rules | `(tactic| walk_at "zq") => `(tactic| skip)
local macro_rules | `(tactic| walk_at "zq") => `(tactic| skip)
local macro_rules | `(tactic| walk_at "zq") => `(tactic| skip)
local macro_rules | `(tactic| walk_at "zq") => `(tactic| skip)
local macro_rules | `(tactic| walk_at "zq") => `(tactic| skip)
local macro_rules | `(tactic| walk_at "zq") => `(tactic| skip)
local macro_rules | `(tactic| walk_at "zq") => `(tactic| skip)
local macro_rules | `(tactic| walk_at "zq") => `(tactic| skip)
local macro_rules | `(tactic| walk_at "zq") => `(tactic| skip)
local macro_rules | `(tactic| walk_at "zq") => `(tactic| skip)
local macro_rules | `(tactic| walk_at "zq") => `(tactic| skip)
local macro_rules | `(tactic| walk_at "zq") => `(tactic| skip)
local macro_rules | `(tactic| walk_at "zq") => `(tactic| skip)
local macro_rules | `(tactic| walk_at "zq") => `(tactic| skip)
local macro_rules | `(tactic| walk_at "EndP") => `(tactic| (refine EndP.intro (Fr.keep (by assumption)) ?_))
local macro_rules | `(tactic| walk_at "p_enter") => `(tactic| (
  unfold Pure1
  k_fill
  intro gd env outer A₀ base h₀ L m s mean mg mb B F X T hf hk
  refine' pure_enter B F X T ?kA hf hk ?k6 ?k7 ?k8 ?k9 ?kB ?_ ?c2 ?c3 ?c4 ?c5; (case kA => exact rfl);  (case k6 => k_is); (case k7 => k_is); (case k8 => exact Nat.le_of_ble_eq_true rfl); (case k9 => exact BindsTo.of_eq rfl); (case c5 => decide); (case kB => exact locs rfl); (case c2 => exact rfl); (case c3 => exact rfl); (case c4 => exact rfl); 
  clear hf hk F X T B; intro L' h' F' N' B' X' T'; (try dsimp only); (try k_fold)))
local macro_rules | `(tactic| walk_at "p_enterT") => `(tactic| (
  unfold PureT1
  k_fill
  intro gd env outer A₀ base h₀ L m s mean mg mb tT B F X T hf hk
  refine' pure_enterT tT B F X T ?kA hf hk ?k6 ?k7 ?k8 ?k9 ?kB ?_ ?c2 ?c3 ?c4 ?c5; (case kA => exact rfl);  (case k6 => k_is); (case k7 => k_is); (case k8 => exact Nat.le_of_ble_eq_true rfl); (case k9 => exact BindsTo.of_eq rfl); (case c5 => decide); (case kB => exact locs rfl); (case c2 => exact rfl); (case c3 => exact rfl); (case c4 => exact rfl); 
  clear hf hk F X T B tT; intro L' h' tk0 tT F' N' B' X' T'; (try dsimp only); (try k_fold)))
local macro_rules | `(tactic| walk_at "EndI") => `(tactic| (refine EndI.intro (Fr.keep (by assumption)) ?_))
local macro_rules | `(tactic| walk_at "c_enter") => `(tactic| (
  unfold Pure1
  k_fill
  intro gd env outer A₀ base h₀ L m s mean mg mb B F X T hf hk
  refine' cls_enter B F X T ?kA hf hk ?km ?ki ?kf ?k6 ?k7 ?k8 ?k9 ?kB ?_ ?c2 ?c3 ?c4 ?c5; (case kA => exact rfl); (case km => k_is); (case ki => k_is); (case kf => k_is); (case k6 => k_is); (case k7 => k_is); (case k8 => exact Nat.le_of_ble_eq_true rfl); (case k9 => exact fun x s => BindsTo.of_eq rfl); (case c5 => decide); (case kB => exact fun x => locs rfl); (case c2 => exact rfl); (case c3 => exact rfl); (case c4 => exact rfl);
  clear hf hk F X T B; intro x' dx' L' h' tk' l1' l2' l3' F' N' B' X' T'; (try dsimp only); (try k_fold)))
local macro_rules | `(tactic| walk_at "exec For Name Attribute cons nil") => `(tactic| (k_here; (rename Fr _ _ _ _ => lF'); (with_unfolding_all refine' For_invVF lF' ?k1 ?k2 ?_; (case k1 => exact rfl); (case k2 => exact rfl); k_whole)))
local macro_rules | `(tactic| k_all) => `(tactic| (refine' ne_of_all ?ha ?hb; (case ha => assumption); (case hb => (intro p hp; k_ownIn))))
local macro_rules | `(tactic| walk_at "call type:tuple") => `(tactic| (k_here; (with_reducible show wpAny _ _ (call (Value.type _) [Value.ref _]) _ _ _); k_dflt (refine' tuple_I ?F ?N ?m ?i ?z ?_; (case F => k_asm); (case N => k_asm); (case m => k_mem); (case i => with_reducible assumption); (case z => omega)); intro D' h' F' N' l1; (have l9 := l1); (try k_lt l1)))
-- mysetItem
local macro_rules | `(tactic| walk_at "setItem ref int") => `(tactic| ((k_here; (with_reducible show wpAny _ _ (setItem (Value.ref _) (Value.int _ _) (Value.int _ _)) _ _ _); k_dflt (refine' ksa_set ?k1 ?k2 ?k3 ?k4 ?k5 ?k6 ?k7 ?_; (case k1 => k_asm); (case k2 => k_asm); (case k3 => k_upd); (case k4 => with_reducible assumption); (case k5 => omega); (case k6 => ((try simp only [List.length_append, List.length_replicate]); omega)); (case k7 => omega); k_whole); intro h' F' N' hi' hl' hs')))
local macro_rules | `(tactic| walk_at "pyIter str") => `(tactic| (fail "mine"))
local macro_rules | `(tactic| walk_at "call builtin:len") => `(tactic| (k_here; (with_reducible show wpAny _ _ (call (Value.builtin "len") [Value.ref _]) _ _ _); k_dflt (refine' len_I ?N ?m ?i ?z ?_; (case N => k_asm); (case m => k_mem); (case i => with_reducible assumption); (case z => omega)); intro t' tk'))
local macro_rules | `(tactic| walk_at "binaryOp Add ref ref") => `(tactic| (k_here; k_dflt (refine' add_I ?F ?N ?m ?m2 ?i ?j ?z ?_; (case F => k_asm); (case N => k_asm); (case m => k_mem); (case m2 => k_mem); (case i => with_reducible assumption); (case j => with_reducible assumption); (case z => (simp only [List.length_replicate]; omega))); intro D' h' F' N' i' l1; (have l9 := l1); (try k_lt l1)))
local macro_rules | `(tactic| walk_at "binaryOp Mult ref int") => `(tactic| (k_here; k_dflt (refine' mul_I ?F ?N ?m ?h0 ?z ?_; (case F => k_asm); (case N => k_asm); (case m => k_mem); (case h0 => omega); (case z => omega)); intro D' h' ws' F' N' i' l1; (have l9 := l1); (try k_lt l1)))
def bump (l : List Int) (b : Int) : List Int :=
  match (if (l.length : Int) ≤ b then l ++ List.replicate (b - l.length + 1).toNat 0 else l) with
  | l' => l'.set b.toNat (l'.getD b.toNat 0 + 1)
def wsStep (st : WSt) (c : Nat) : WSt := if c = 32 then { st with b := st.b + 1, n := st.n + 1 } else { cnt := bump st.cnt st.b, b := 0, n := st.n + 1, nt := st.nt + 1 }
def wsAll (l : List Nat) : WSt := l.foldl wsStep ⟨[], 0, 0, 0⟩
structure WS where
  D : Addr
  vs : List Value
  ep : Nat
  st : WSt
  tb : Tok
  tn : Tok
  tnt : Tok

theorem bump_len (l : List Int) (b : Int) (k : Nat) (h0 : 0 ≤ b) (hb : b ≤ k) (hl : l.length ≤ k + 1) : (bump l b).length ≤ k + 1 := by
  unfold bump
  dsimp only
  rw [List.length_set]
  split
  · rw [List.length_append, List.length_replicate]; omega
  · exact hl
theorem ws_bound : ∀ (l : List Nat) (st : WSt) (k : Nat), 0 ≤ st.b → st.b ≤ k → st.cnt.length ≤ k + 1 →
    0 ≤ (l.foldl wsStep st).b ∧ (l.foldl wsStep st).b ≤ k + l.length ∧ (l.foldl wsStep st).cnt.length ≤ k + l.length + 1
  | [], st, k, h0, h1, h2 => ⟨h0, by simpa using h1, by simpa using h2⟩
  | c :: l, st, k, h0, h1, h2 => by
    have key : 0 ≤ (wsStep st c).b ∧ (wsStep st c).b ≤ ((k + 1 : Nat) : Int) ∧ (wsStep st c).cnt.length ≤ k + 1 + 1 := by
      unfold wsStep
      split
      · exact ⟨by show 0 ≤ st.b + 1; omega, by show st.b + 1 ≤ _; omega, by show st.cnt.length ≤ _; omega⟩
      · exact ⟨Int.le_refl _, by show (0 : Int) ≤ _; omega, Nat.le_succ_of_le (bump_len _ _ _ h0 h1 h2)⟩
    have := ws_bound l (wsStep st c) (k + 1) key.1 key.2.1 key.2.2
    rw [List.foldl_cons, List.length_cons]
    refine ⟨this.1, ?_, ?_⟩
    · have h := this.2.1; push_cast at h ⊢; omega
    · have h := this.2.2; omega
theorem ws_take (x : Str) (i c : Nat) (h : x.cps[i]? = some c) : wsAll (x.cps.toList.take (i + 1)) = wsStep (wsAll (x.cps.toList.take i)) c := by
  have h' : x.cps.toList[i]? = some c := by rw [Array.getElem?_toList]; exact h
  unfold wsAll
  rw [List.take_add_one, h']
  simp
theorem wsp (w : World) (x : Str) (t : Tok) (hx : ∀ c ∈ x.cps.toList, c = 32 ∨ c = 9) (z : x.length ≤ 200) : Pure1 w 600 6000 124 [.str x t] (WsMade w.params 124 x (wsAll x.cps.toList)) := by
  walk_at "c_enter"
  k_steps
  (rename News _ _ _ _ => N1)
  (rename Fr _ _ _ _ => F1)
  (rename (_ < _ ∧ _ < _ ∧ _ < _) => l1)
  refine' iter_text (σ := WS) (fun c => (c.D, W.listOf c.vs.toArray c.ep) :: restOf N1) (fun c => [(Str.ofString "count", .ref c.D), (Str.ofString "b", .int c.st.b c.tb), (Str.ofString "n", .int c.st.n c.tn), (Str.ofString "nt", .int c.st.nt c.tnt)]) []
    (fun i c => IntsAre c.vs c.st.cnt ∧ c.st = wsAll (x.cps.toList.take i) ∧ AllLt c.D (restOf N1)) ⟨_, [], 0, ⟨[], 0, 0, 0⟩, _, _, _⟩ rfl F1 N1 ?hk ?hi ?turn ?done
  case hk => 
    intro p hp
    simp only [List.mem_cons, List.mem_nil_iff, or_false] at hp
    rcases hp with rfl | rfl | rfl | rfl <;> rfl
  case hi => exact ⟨.nil, rfl, by dsimp only [restOf, AllLt]; exact ⟨by omega, by omega, by omega, trivial⟩⟩
  case turn =>
    intro i n t c u h tk own I oI hn hj ho hm hf F2 N2
    obtain ⟨h1, h2, h3⟩ := hj
    dsimp only [restOf, AllLt, kstB] at h3 F2 N2 ho
    simp only [List.cons_append, List.nil_append, and_true] at N2 h3
    have hnx := hx n (List.mem_of_getElem? (i := i) (by rw [Array.getElem?_toList]; exact hn))
    rcases hnx with rfl | rfl
    · show wpAny _ _ _ _ _ _
      k_fold
      k_steps
      refine' TurnEnd.go ⟨_, _, _, wsStep c.st 32, _, _, _⟩ ?F ?N ?ho ?hk ?hr ?hi
      case F => assumption
      case N => assumption
      case ho => exact ho
      case hk =>
        intro p hp
        simp only [List.mem_cons, List.mem_nil_iff, or_false] at hp
        rcases hp with rfl | rfl | rfl | rfl <;> rfl
      case hr =>
        intro z hz1 hz2 _
        simp only [List.mem_cons, List.mem_nil_iff, or_false, forall_eq_or_imp, forall_eq] at hz2
        obtain ⟨q1, q2, q3, q4⟩ := hz2
        simp only [if_neg hz1, if_neg q1, if_neg q2, if_neg q3, if_neg q4, List.contains_nil, Bool.false_eq_true, if_false]
      case hi => exact ⟨h1, by rw [ws_take x i 32 hn, ← h2], by dsimp only [restOf, AllLt]; simp only [and_true]; exact h3⟩
    · show wpAny _ _ _ _ _ _
      have hs1 : 0 ≤ c.st.b ∧ c.st.b ≤ 200 ∧ c.st.cnt.length ≤ 201 := by
        have h := ws_bound (x.cps.toList.take i) ⟨[], 0, 0, 0⟩ 0 (Int.le_refl _) (Int.le_refl _) (Nat.zero_le _)
        have hl : (x.cps.toList.take i).length ≤ 200 := by rw [List.length_take]; have : x.cps.toList.length = x.length := Array.length_toList; omega
        rw [h2]; exact ⟨h.1, by have := h.2.1; show (List.foldl wsStep _ _).b ≤ 200; omega, by have := h.2.2; show (List.foldl wsStep _ _).cnt.length ≤ 201; omega⟩
      obtain ⟨hs1, hs2, hs3⟩ := hs1
      have hoD : OwnOff own [c.D] := by intro p hp b hb; rw [List.mem_singleton.mp hb, hf p hp]; exact Ne.symm (ho _ (List.mem_cons_self ..))
      show wpAny _ _ _ _ _ _
      k_fold
      k_steps
      · (rename News _ _ _ _ => N3)
        have hb : bump c.st.cnt c.st.b = (c.st.cnt ++ List.replicate (c.st.b - (c.st.cnt.length : Int) + 1).toNat 0).set c.st.b.toNat ((c.st.cnt ++ List.replicate (c.st.b - (c.st.cnt.length : Int) + 1).toNat 0).getD c.st.b.toNat 0 + 1) := by
          unfold bump; dsimp only; rw [if_pos (by first | assumption | omega | (simp only [decide_eq_true_eq] at *; omega))]
        refine' TurnEnd.go ⟨(lstOf N3).1, (lstOf N3).2.1, (lstOf N3).2.2, wsStep c.st 9, _, _, _⟩ ?F ?N ?ho ?hk ?hr ?hi
        case F => assumption
        case N => exact news_sub N3 (.cons_cons _ (.cons _ (.cons _ (.cons _ (.refl _)))))
        case ho =>
          intro p hp
          rcases List.mem_cons.mp hp with rfl | hp
          · have l9 : (I, oI).1 < _ := (‹∀ p ∈ _, p.1 < _› : ∀ p ∈ _, _) (I, oI) (by k_ownIn)
            exact Nat.ne_of_gt l9
          · exact ho p (List.mem_cons_of_mem _ hp)
        case hk =>
          intro p hp
          simp only [List.mem_cons, List.mem_nil_iff, or_false] at hp
          rcases hp with rfl | rfl | rfl | rfl <;> rfl
        case hr =>
          intro z hz1 hz2 _
          simp only [List.mem_cons, List.mem_nil_iff, or_false, forall_eq_or_imp, forall_eq] at hz2
          obtain ⟨q1, q2, q3, q4⟩ := hz2
          simp only [if_neg hz1, if_neg q1, if_neg q2, if_neg q3, if_neg q4, List.contains_nil, Bool.false_eq_true, if_false]
        case hi => exact ⟨by show IntsAre _ (bump c.st.cnt c.st.b); rw [hb]; assumption, by rw [ws_take x i 9 hn, ← h2], by dsimp only [restOf, AllLt]; simp only [and_true]; exact ⟨by omega, by omega, by omega⟩⟩
      · (rename News _ _ _ _ => N3)
        have hb : bump c.st.cnt c.st.b = c.st.cnt.set c.st.b.toNat (c.st.cnt.getD c.st.b.toNat 0 + 1) := by
          unfold bump; dsimp only; rw [if_neg (by first | assumption | omega | (simp only [decide_eq_false_iff_not] at *; omega))]
        refine' TurnEnd.go ⟨(lstOf N3).1, (lstOf N3).2.1, (lstOf N3).2.2, wsStep c.st 9, _, _, _⟩ ?F ?N ?ho ?hk ?hr ?hi
        case F => assumption
        case N => exact N3
        case ho =>
          intro p hp
          rcases List.mem_cons.mp hp with rfl | hp
          · exact ho (c.D, W.listOf c.vs.toArray c.ep) (List.mem_cons_self ..)
          · exact ho p (List.mem_cons_of_mem _ hp)
        case hk =>
          intro p hp
          simp only [List.mem_cons, List.mem_nil_iff, or_false] at hp
          rcases hp with rfl | rfl | rfl | rfl <;> rfl
        case hr =>
          intro z hz1 hz2 _
          simp only [List.mem_cons, List.mem_nil_iff, or_false, forall_eq_or_imp, forall_eq] at hz2
          obtain ⟨q1, q2, q3, q4⟩ := hz2
          simp only [if_neg hz1, if_neg q1, if_neg q2, if_neg q3, if_neg q4, List.contains_nil, Bool.false_eq_true, if_false]
        case hi => exact ⟨by show IntsAre _ (bump c.st.cnt c.st.b); rw [hb]; assumption, by rw [ws_take x i 9 hn, ← h2], by dsimp only [restOf, AllLt]; simp only [and_true]; exact ⟨by omega, by omega, by omega⟩⟩
  case done =>
    intro c u h tk hj F2 N2
    obtain ⟨h1, h2, h3⟩ := hj
    dsimp only [restOf, AllLt, kstB] at h3 F2 N2
    simp only [and_true] at h3
    have hs1 : 0 ≤ c.st.b ∧ c.st.b ≤ 200 ∧ c.st.cnt.length ≤ 201 := by
      have h := ws_bound (x.cps.toList.take x.length) ⟨[], 0, 0, 0⟩ 0 (Int.le_refl _) (Int.le_refl _) (Nat.zero_le _)
      have hl : (x.cps.toList.take x.length).length ≤ 200 := by rw [List.length_take]; have : x.cps.toList.length = x.length := Array.length_toList; omega
      rw [h2]; exact ⟨h.1, by have := h.2.1; show (List.foldl wsStep _ _).b ≤ 200; omega, by have := h.2.2; show (List.foldl wsStep _ _).cnt.length ≤ 201; omega⟩
    obtain ⟨hs1, hs2, hs3⟩ := hs1
    dsimp only
    show wpAny _ _ _ _ _ _
    (try k_fold)
    k_steps
    have h2' : c.st = wsAll x.cps.toList := by rw [h2]; congr 1; exact List.take_of_length_le (Nat.le_of_eq Array.length_toList)
    rw [← h2']
    (rename News _ _ _ _ => N3)
    refine ⟨_, _, _, _, c.vs, ⟨_, _, _, _, _, _, _, _, _⟩, rfl, made_of N3 (.cons_cons _ (.cons_cons _ (.cons _ (.cons _ (.cons_cons _ (.cons_cons _ .slnil)))))) ?_, h1, ?_, ?_, ?_⟩
    · intro p hp
      simp only [List.mem_cons, List.mem_nil_iff, or_false] at hp
      rcases hp with rfl | rfl | rfl | rfl <;> (dsimp only; omega)
    all_goals omega
end
end Mine
-- part Ke1
namespace Mine
section
theorem off_Ke1 : True := by w_top off; trivial
local macro_rules | `(tactic| walk_at "zq") => `(tactic| skip)
local macro_rules | `(tactic| walk_at "zq") => `(tactic| skip)
local macro_rules | `(tactic| walk_at "zq") => `(tactic| skip)
local macro_rules | `(tactic| walk_at "zq") => `(tactic| skip)
local macro_rules | `(tactic| walk_at "zq") => `(tactic| skip)
local macro_rules | `(tactic| walk_at "zq") => `(tactic| skip)
local macro_rules | `(tactic| walk_at "zq") => `(tactic| skip)
local macro_rules | `(tactic| walk_at "zq") => `(tactic| skip)
local macro_rules | `(tactic| walk_at "zq") => `(tactic| skip)
local macro_rules | `(tactic| walk_at "zq") => `(tactic| skip)
local macro_rules | `(tactic| walk_at "zq") => `(tactic| skip)
local macro_rules | `(tactic| walk_at "zq") => `(tactic| skip)
local macro_rules | `(tactic| walk_at "zq") => `(tactic| skip)
local macro_rules | `(tactic| walk_at "zq") => `(tactic| skip)
local macro_rules | `(tactic| walk_at "zq") => `(tactic| skip)
local macro_rules | `(tactic| walk_at "zq") => `(tactic| skip)
local macro_rules | `(tactic| walk_at "zq") => `(tactic| skip)
local macro_rules | `(tactic| walk_at "zq") => `(tactic| skip)
local macro_rules | `(tactic| walk_at "zq") => `(tactic| skip)
local macro_rules | `(tactic| walk_at "zq") => `(tactic| skip)
local macro_rules | `(tactic| walk_at "zq") => `(tactic| skip)
local macro_rules | `(tactic| walk_at "zq") => `(tactic| skip)
local macro_rules | `(tactic| walk_at "zq") => `(tactic| skip)
local macro_rules | `(tactic| walk_at "zq") => `(tactic| skip)
local macro_rules | `(tactic| walk_at "zq") => `(tactic| skip)
local macro_rules | `(tactic| walk_at "zq") => `(tactic| skip)
local macro_rules | `(tactic| walk_at "zq") => `(tactic| skip)
local macro_rules | `(tactic| walk_at "zq") => `(tactic| skip)
local macro_rules | `(tactic| walk_at "zq") => `(tactic| skip)
local macro_rules | `(tactic| walk_at "zq") => `(tactic| skip)
local macro_rules | `(tactic| walk_at "zq") => `(tactic| skip)
local macro_rules | `(tactic| walk_at "zq") => `(tactic| skip)
local macro_rules | `(tactic| walk_at "zq") => `(tactic| skip)
local macro_rules | `(tactic| walk_at "zq") => `(tactic| skip)
local macro_rules | `(tactic| walk_at "zq") => `(tactic| skip)
local macro_rules | `(tactic| walk_at "zq") => `(tactic| skip)
local macro_rules | `(tactic| walk_at "zq") => `(tactic| skip)
local macro_rules | `(tactic| walk_at "zq") => `(tactic| skip)
local macro_rules | `(tactic| walk_at "zq") => `(tactic| skip)
local macro_rules | `(tactic| walk_at "zq") => `(tactic| skip)
local macro_rules | `(tactic| walk_at "EndP") => `(tactic| (refine EndP.intro (Fr.keep (by assumption)) ?_))
local macro_rules | `(tactic| walk_at "p_enter") => `(tactic| (
  unfold Pure1
  k_fill
  intro gd env outer A₀ base h₀ L m s mean mg mb B F X T hf hk
  refine' pure_enter B F X T ?kA hf hk ?k6 ?k7 ?k8 ?k9 ?kB ?_ ?c2 ?c3 ?c4 ?c5; (case kA => exact rfl);  (case k6 => k_is); (case k7 => k_is); (case k8 => exact Nat.le_of_ble_eq_true rfl); (case k9 => exact BindsTo.of_eq rfl); (case c5 => decide); (case kB => exact locs rfl); (case c2 => exact rfl); (case c3 => exact rfl); (case c4 => exact rfl); 
  clear hf hk F X T B; intro L' h' F' N' B' X' T'; (try dsimp only); (try k_fold)))
local macro_rules | `(tactic| walk_at "p_enterT") => `(tactic| (
  unfold PureT1
  k_fill
  intro gd env outer A₀ base h₀ L m s mean mg mb tT B F X T hf hk
  refine' pure_enterT tT B F X T ?kA hf hk ?k6 ?k7 ?k8 ?k9 ?kB ?_ ?c2 ?c3 ?c4 ?c5; (case kA => exact rfl);  (case k6 => k_is); (case k7 => k_is); (case k8 => exact Nat.le_of_ble_eq_true rfl); (case k9 => exact BindsTo.of_eq rfl); (case c5 => decide); (case kB => exact locs rfl); (case c2 => exact rfl); (case c3 => exact rfl); (case c4 => exact rfl); 
  clear hf hk F X T B tT; intro L' h' tk0 tT F' N' B' X' T'; (try dsimp only); (try k_fold)))
local macro_rules | `(tactic| walk_at "call builtin:str.split") => `(tactic| (k_here; (refine KSpl.split1 (by k_asm) (by k_asm) (by decide) ?_ (by (rw [sizeLine_eq]; omega))); intro D' l' h' k' e' a' F' N' l1; (try k_lt l1); (with_reducible rename Txt.split _ _ = _ => hsp'); rw [hsp'] at e'; kspl_open e'; (simp only [strValues, List.map_cons, List.map_nil] at N' a')))
local macro_rules | `(tactic| walk_at "pyIter ref") => `(tactic| (((with_reducible rename Fr _ _ _ _ => lF'); (with_reducible rename News _ _ _ _ => lN'); with_unfolding_all refine iter_nil (by rfl) (News.isList lN' (by k_mem)) (news_ne lN' (by k_mem)) lF' lN' ?_; intro u' h' tk' F' N')))
theorem ell1 (w : World) (want got P S : Str) (t1 t2 : Tok) (hsp : Txt.split want (Str.ofString "...") = [P, S]) (hocc : (Builtin.Str.occurrences want (Str.ofString "...") 0 want.length 1).isEmpty = false) (hP : 0 < P.length) (hS : 0 < S.length)
    (z1 : want.length ≤ 1000) (z2 : got.length ≤ 1000) (z3 : P.length ≤ 1000) (z4 : S.length ≤ 1000) : Pure1 w 600 6000 45 [.str want t1, .str got t2] (fun _ v _ => v = .bool (Txt.startswith got P && (Txt.endswith got S && decide (P.length + S.length ≤ got.length)))) := by
  walk_at "p_enter"
  k_steps
  all_goals try (show Value.bool _ = Value.bool _; congr 1)
  all_goals try (simp_all; done)
  all_goals try (simp_all; omega)
end
end Mine
-- part Kl1
namespace Mine
section
theorem off_Kl1 : True := by w_top off; trivial
local macro_rules | `(tactic| walk_at "zq") => `(tactic| skip)
local macro_rules | `(tactic| walk_at "zq") => `(tactic| skip)
local macro_rules | `(tactic| walk_at "zq") => `(tactic| skip)
local macro_rules | `(tactic| walk_at "zq") => `(tactic| skip)
local macro_rules | `(tactic| walk_at "zq") => `(tactic| skip)
local macro_rules | `(tactic| walk_at "zq") => `(tactic| skip)
local macro_rules | `(tactic| walk_at "zq") => `(tactic| skip)
local macro_rules | `(tactic| walk_at "zq") => `(tactic| skip)
local macro_rules | `(tactic| walk_at "zq") => `(tactic| skip)
local macro_rules | `(tactic| walk_at "zq") => `(tactic| skip)
local macro_rules | `(tactic| walk_at "zq") => `(tactic| skip)
local macro_rules | `(tactic| walk_at "zq") => `(tactic| skip)
local macro_rules | `(tactic| walk_at "zq") => `(tactic| skip)
local macro_rules | `(tactic| walk_at "zq") => `(tactic| skip)
local macro_rules | `(tactic| walk_at "zq") => `(tactic| skip)
local macro_rules | `(tactic| walk_at "zq") => `(tactic| skip)
local macro_rules | `(tactic| walk_at "zq") => `(tactic| skip)
local macro_rules | `(tactic| walk_at "zq") => `(tactic| skip)
local macro_rules | `(tactic| walk_at "zq") => `(tactic| skip)
local macro_rules | `(tactic| walk_at "zq") => `(tactic| skip)
local macro_rules | `(tactic| walk_at "zq") => `(tactic| skip)
local macro_rules | `(tactic| walk_at "zq") => `(tactic| skip)
local macro_rules | `(tactic| walk_at "zq") => `(tactic| skip)
local macro_rules | `(tactic| walk_at "zq") => `(tactic| skip)
local macro_rules | `(tactic| walk_at "zq") => `(tactic| skip)
local macro_rules | `(tactic| walk_at "zq") => `(tactic| skip)
local macro_rules | `(tactic| walk_at "zq") => `(tactic| skip)
local macro_rules | `(tactic| walk_at "zq") => `(tactic| skip)
local macro_rules | `(tactic| walk_at "zq") => `(tactic| skip)
local macro_rules | `(tactic| walk_at "zq") => `(tactic| skip)
local macro_rules | `(tactic| walk_at "zq") => `(tactic| skip)
local macro_rules | `(tactic| walk_at "zq") => `(tactic| skip)
local macro_rules | `(tactic| walk_at "zq") => `(tactic| skip)
local macro_rules | `(tactic| walk_at "zq") => `(tactic| skip)
local macro_rules | `(tactic| walk_at "zq") => `(tactic| skip)
local macro_rules | `(tactic| walk_at "zq") => `(tactic| skip)
local macro_rules | `(tactic| walk_at "zq") => `(tactic| skip)
local macro_rules | `(tactic| walk_at "zq") => `(tactic| skip)
local macro_rules | `(tactic| walk_at "zq") => `(tactic| skip)
local macro_rules | `(tactic| walk_at "zq") => `(tactic| skip)
local macro_rules | `(tactic| walk_at "zq") => `(tactic| skip)
local macro_rules | `(tactic| walk_at "zq") => `(tactic| skip)
local macro_rules | `(tactic| walk_at "zq") => `(tactic| skip)
local macro_rules | `(tactic| walk_at "zq") => `(tactic| skip)
local macro_rules | `(tactic| walk_at "zq") => `(tactic| skip)
local macro_rules | `(tactic| walk_at "zq") => `(tactic| skip)
local macro_rules | `(tactic| walk_at "zq") => `(tactic| skip)
local macro_rules | `(tactic| walk_at "zq") => `(tactic| skip)
local macro_rules | `(tactic| walk_at "zq") => `(tactic| skip)
local macro_rules | `(tactic| walk_at "zq") => `(tactic| skip)
local macro_rules | `(tactic| walk_at "zq") => `(tactic| skip)
local macro_rules | `(tactic| walk_at "zq") => `(tactic| skip)
local macro_rules | `(tactic| walk_at "zq") => `(tactic| skip)
local macro_rules | `(tactic| walk_at "zq") => `(tactic| skip)
local macro_rules | `(tactic| walk_at "zq") => `(tactic| skip)
local macro_rules | `(tactic| walk_at "zq") => `(tactic| skip)
local macro_rules | `(tactic| walk_at "zq") => `(tactic| skip)
local macro_rules | `(tactic| walk_at "zq") => `(tactic| skip)
local macro_rules | `(tactic| walk_at "zq") => `(tactic| skip)
local macro_rules | `(tactic| walk_at "zq") => `(tactic| skip)
local macro_rules | `(tactic| walk_at "EndP") => `(tactic| (refine EndP.intro (Fr.keep (by assumption)) ?_))
local macro_rules | `(tactic| walk_at "p_enter") => `(tactic| (
  unfold Pure1
  k_fill
  intro gd env outer A₀ base h₀ L m s mean mg mb B F X T hf hk
  refine' pure_enter B F X T ?kA hf hk ?k6 ?k7 ?k8 ?k9 ?kB ?_ ?c2 ?c3 ?c4 ?c5; (case kA => exact rfl);  (case k6 => k_is); (case k7 => k_is); (case k8 => exact Nat.le_of_ble_eq_true rfl); (case k9 => exact BindsTo.of_eq rfl); (case c5 => decide); (case kB => exact locs rfl); (case c2 => exact rfl); (case c3 => exact rfl); (case c4 => exact rfl); 
  clear hf hk F X T B; intro L' h' F' N' B' X' T'; (try dsimp only); (try k_fold)))
local macro_rules | `(tactic| walk_at "p_enterT") => `(tactic| (
  unfold PureT1
  k_fill
  intro gd env outer A₀ base h₀ L m s mean mg mb tT B F X T hf hk
  refine' pure_enterT tT B F X T ?kA hf hk ?k6 ?k7 ?k8 ?k9 ?kB ?_ ?c2 ?c3 ?c4 ?c5; (case kA => exact rfl);  (case k6 => k_is); (case k7 => k_is); (case k8 => exact Nat.le_of_ble_eq_true rfl); (case k9 => exact BindsTo.of_eq rfl); (case c5 => decide); (case kB => exact locs rfl); (case c2 => exact rfl); (case c3 => exact rfl); (case c4 => exact rfl); 
  clear hf hk F X T B tT; intro L' h' tk0 tT F' N' B' X' T'; (try dsimp only); (try k_fold)))
local macro_rules | `(tactic| k_steps) => `(tactic| repeat' ((fail_if_success (with_reducible refine Hold.go ?_)); (fail_if_success (with_reducible refine TurnEnd.mk ?_)); (fail_if_success (with_reducible refine WTurn.mk ?_)); (first | (k_unfold; (try dsimp only)) | (k_end; wrow_close) | walk1 | (dsimp only; walk1) | (leave1; walk_say "STEP leave1"; (try dsimp only)) | fail "no step")))
def GoodMail (r : List Nat) : Prop := subAll code2 (mailOf r).cps crlf = some (mailOf r) ∧ subAll code1 (mailOf r).cps dots = some (mailOf (r.map (· + 1)))
theorem lit_empty : Str.ofString "" = mailOf (mailRows []) := by decide +kernel
structure LS where
  mail : Str
  tm : Tok
local macro_rules | `(tactic| walk_at "exec For Name Subscript cons nil") => `(tactic| (k_here; (refine with_toksQ (n := 1) (by ((try dsimp only); omega)) ?_); (rename Fr _ _ _ _ => lF'); (with_unfolding_all refine' For_invVF lF' ?k1 ?k2 ?_; (case k1 => exact rfl); (case k2 => exact rfl); k_whole)))
local macro_rules | `(tactic| walk_at "subscriptTail Name Slice str ref") => `(tactic| ((with_reducible show wpAny _ _ (subscriptTail _ (Expr.Slice none none (some _) _) _ _) _ _ _); (with_reducible rename Fr _ _ _ _ => F'); (with_reducible rename News _ _ _ _ => N'); (refine' rev_N (s := ⟨_, _, _, _, _⟩) F' N' ?hsz ?_ ?hs ?ht); (case hsz => omega); (case hs => with_unfolding_all rfl); (case ht => (intro _; with_unfolding_all rfl)); intro h' t' c' F' N'))
local macro_rules | `(tactic| walk_at "call builtin:str.replace") => `(tactic| (k_here; k_dflt (refine' replace_T ?F ?N ?ht ?hu ?hv ?huv ?hyz ?hb ?_; (case F => k_asm); (case N => k_asm); (case ht => ((try dsimp only); omega)); (case hu => ((try dsimp only); omega)); (case hv => ((try dsimp only); omega)); (case huv => ((try dsimp only); omega)); (case hyz => decide +kernel); (case hb => (show _ + (_ + 1) * 1 ≤ 16777216; omega))); intro t' k' tk1'; (first | ((with_reducible rename Txt.replace (mailOf _) _ _ = _ => q'); rw [q']) | ((with_reducible rename Txt.replace (midOf _) _ _ = _ => q'); rw [q']) | skip)))
local macro_rules | `(tactic| walk_at "pyIter str") => `(tactic| (fail "mine"))
local macro_rules | `(tactic| walk_at "call ref") => `(tactic| (k_here; k_dflt (refine' pure_use (quo _ _ _ _ _ ?e2 ?e1 ?s0 ?s1 ?s2) ?B ?F ?X ?T ?N ?h1 ?h2 ?hf ?hk ?hd ?hu ?_; (case e2 => assumption); (case e1 => assumption); (case s0 => omega); (case s1 => omega); (case s2 => omega); (case B => k_asm); (case F => k_asm); (case X => k_asm); (case T => k_asm); (case N => k_asm); (case h1 => rfl); (case h2 => rfl); (case hf => rfl); (case hk => rfl); (case hd => exact Nat.le_of_ble_eq_true rfl); (case hu => exact Nat.le_of_ble_eq_true rfl)); intro v' h' tk' F' N' st' R'; obtain ⟨t', e9⟩ := R'; subst e9))
local macro_rules | `(tactic| walk_at "call ref") => `(tactic| (k_here; k_dflt (refine' pure_use (wsp _ _ _ ?hx ?z) ?B ?F ?X ?T ?N ?h1 ?h2 ?hf ?hk ?hd ?hu ?_; (case hx => exact leadOf_chars _); (case z => omega); (case B => k_asm); (case F => k_asm); (case X => k_asm); (case T => k_asm); (case N => k_asm); (case h1 => rfl); (case h2 => rfl); (case hf => rfl); (case hk => rfl); (case hd => exact Nat.le_of_ble_eq_true rfl); (case hu => exact Nat.le_of_ble_eq_true rfl)); intro v' h' tk' F' N' st' R'))
theorem lead (w : World) (word : Str) (t1 : Tok) (z : word.length ≤ 10) (hw : ∀ c ∈ word.cps.toList, c = 97 ∨ c = 98) (hg : ∀ k, k < word.length → GoodMail (mailRows (word.cps.toList.reverse.take k)))
    (hr1 : Txt.replace (mailOf (mailRows word.cps.toList.reverse)) (Str.ofString ".") (Str.ofString " ") = midOf (mailRows word.cps.toList.reverse))
    (hr2 : Txt.replace (midOf (mailRows word.cps.toList.reverse)) (Str.ofString "\x0d\n") (Str.ofString "\t") = leadOf (mailRows word.cps.toList.reverse)) :
    Pure1 w 550 5500 140 [.str word t1] (WsMade w.params 124 (leadOf (mailRows word.cps.toList.reverse)) (wsAll (leadTxt (mailRows word.cps.toList.reverse)))) := by
  walk_at "p_enter"
  k_steps
  (rename News _ _ _ _ => N1)
  (rename Fr _ _ _ _ => F1)
  refine' iter_text (σ := LS) (fun c => []) (fun c => [(Str.ofString "mail", .str c.mail c.tm)]) []
    (fun i c => c.mail = mailOf (mailRows (word.cps.toList.reverse.take i))) ⟨Str.ofString "", _⟩ rfl F1 N1 ?hk ?hi ?turn ?done
  case hk =>
    intro p hp
    simp only [List.mem_cons, List.mem_nil_iff, or_false] at hp
    rcases hp with rfl; rfl
  case hi => exact lit_empty
  case turn =>
    intro i n t c u h tk own I oI hn hj ho hm hf F2 N2
    have hn' : word.cps.toList.reverse[i]? = some n := by simpa using hn
    have hc : n ∈ word.cps.toList := List.mem_reverse.mp (List.mem_of_getElem? hn')
    obtain ⟨mail, tm⟩ := c
    dsimp only at hj
    subst hj
    have hi10 : i < word.length := by
      have := (List.getElem?_eq_some_iff.mp hn').1
      rw [List.length_reverse] at this; exact this
    have hs0 := mail_len (word.cps.toList.reverse.take i) (by rw [List.length_take]; omega)
    dsimp only [kstB] at F2 N2
    simp only [List.cons_append, List.nil_append] at N2
    have hsn := mail_snoc word.cps.toList.reverse i n hn'
    rcases hw n hc with rfl | rfl
    · obtain ⟨g2, g1⟩ := hg i hi10
      have hs1 := mail_len (word.cps.toList.reverse.take (i + 1)) (by rw [List.length_take]; omega)
      rw [hsn] at hs1
      have hs1 : (mailOf ((mailRows (word.cps.toList.reverse.take i)).map (· + 1))).length ≤ 120 := hs1
      show wpAny _ _ _ _ _ _
      k_fold
      k_steps
      refine' TurnEnd.go ⟨_, _⟩ ?F ?N ?ho ?hk ?hr ?hi
      case F => assumption
      case N => assumption
      case ho => exact fun _ hp => nomatch hp
      case hk =>
        intro p hp
        simp only [List.mem_cons, List.mem_nil_iff, or_false] at hp
        rcases hp with rfl; rfl
      case hr =>
        intro z hz1 hz2 _
        simp only [List.mem_cons, List.mem_nil_iff, or_false, forall_eq] at hz2
        simp only [if_neg hz1, if_neg hz2, List.contains_nil, Bool.false_eq_true, if_false]
      case hi => (dsimp only; rw [hsn]; rfl)
    · show wpAny _ _ _ _ _ _
      k_fold
      k_steps
      refine' TurnEnd.go ⟨_, _⟩ ?F ?N ?ho ?hk ?hr ?hi
      case F => assumption
      case N => assumption
      case ho => exact fun _ hp => nomatch hp
      case hk =>
        intro p hp
        simp only [List.mem_cons, List.mem_nil_iff, or_false] at hp
        rcases hp with rfl; rfl
      case hr =>
        intro z hz1 hz2 _
        simp only [List.mem_cons, List.mem_nil_iff, or_false, forall_eq] at hz2
        simp only [if_neg hz1, if_neg hz2, List.contains_nil, Bool.false_eq_true, if_false]
      case hi => (dsimp only; rw [hsn]; exact mail_cons _)
  case done =>
    intro c u h tk hj F2 N2
    obtain ⟨mail, tm⟩ := c
    dsimp only at hj
    have e : word.cps.toList.reverse.take ({ cps := word.cps.toList.reverse.toArray } : Str).length = word.cps.toList.reverse := List.take_of_length_le (by show _ ≤ word.cps.toList.reverse.toArray.size; simp)
    rw [e] at hj
    subst hj
    dsimp only [kstB] at F2 N2
    have hz1 := mail_len word.cps.toList.reverse (by rw [List.length_reverse]; have : word.cps.toList.length = word.length := Array.length_toList; omega)
    have hz2 := midOf_len (mailRows word.cps.toList.reverse)
    have hz3 := leadOf_len (mailRows word.cps.toList.reverse)
    intro htk
    dsimp only at htk
    dsimp only
    show wpAny _ _ _ _ _ _
    (try k_fold)
    k_steps
    (rename WsMade _ _ _ _ _ _ _ => R9)
    exact WsMade.base R9 (Nat.le_trans F2.above (Nat.le_of_lt F2.ns.lt))
end
end Mine
-- part Kw1
namespace Mine
section
theorem off_Kw1 : True := by w_top off; trivial
local macro_rules | `(tactic| walk_at "zq") => `(tactic| skip)
local macro_rules | `(tactic| walk_at "zq") => `(tactic| skip)
local macro_rules | `(tactic| walk_at "zq") => `(tactic| skip)
local macro_rules | `(tactic| walk_at "zq") => `(tactic| skip)
local macro_rules | `(tactic| walk_at "zq") => `(tactic| skip)
local macro_rules | `(tactic| walk_at "zq") => `(tactic| skip)
local macro_rules | `(tactic| walk_at "zq") => `(tactic| skip)
local macro_rules | `(tactic| walk_at "zq") => `(tactic| skip)
local macro_rules | `(tactic| walk_at "zq") => `(tactic| skip)
local macro_rules | `(tactic| walk_at "zq") => `(tactic| skip)
local macro_rules | `(tactic| walk_at "zq") => `(tactic| skip)
local macro_rules | `(tactic| walk_at "zq") => `(tactic| skip)
local macro_rules | `(tactic| walk_at "zq") => `(tactic| skip)
local macro_rules | `(tactic| walk_at "zq") => `(tactic| skip)
local macro_rules | `(tactic| walk_at "zq") => `(tactic| skip)
local macro_rules | `(tactic| walk_at "zq") => `(tactic| skip)
local macro_rules | `(tactic| walk_at "zq") => `(tactic| skip)
local macro_rules | `(tactic| walk_at "zq") => `(tactic| skip)
local macro_rules | `(tactic| walk_at "zq") => `(tactic| skip)
local macro_rules | `(tactic| walk_at "zq") => `(tactic| skip)
local macro_rules | `(tactic| walk_at "zq") => `(tactic| skip)
local macro_rules | `(tactic| walk_at "zq") => `(tactic| skip)
local macro_rules | `(tactic| walk_at "zq") => `(tactic| skip)
local macro_rules | `(tactic| walk_at "zq") => `(tactic| skip)
local macro_rules | `(tactic| walk_at "zq") => `(tactic| skip)
local macro_rules | `(tactic| walk_at "zq") => `(tactic| skip)
local macro_rules | `(tactic| walk_at "zq") => `(tactic| skip)
local macro_rules | `(tactic| walk_at "zq") => `(tactic| skip)
local macro_rules | `(tactic| walk_at "zq") => `(tactic| skip)
local macro_rules | `(tactic| walk_at "zq") => `(tactic| skip)
local macro_rules | `(tactic| walk_at "zq") => `(tactic| skip)
local macro_rules | `(tactic| walk_at "zq") => `(tactic| skip)
local macro_rules | `(tactic| walk_at "zq") => `(tactic| skip)
local macro_rules | `(tactic| walk_at "zq") => `(tactic| skip)
local macro_rules | `(tactic| walk_at "zq") => `(tactic| skip)
local macro_rules | `(tactic| walk_at "zq") => `(tactic| skip)
local macro_rules | `(tactic| walk_at "zq") => `(tactic| skip)
local macro_rules | `(tactic| walk_at "zq") => `(tactic| skip)
local macro_rules | `(tactic| walk_at "zq") => `(tactic| skip)
local macro_rules | `(tactic| walk_at "zq") => `(tactic| skip)
local macro_rules | `(tactic| walk_at "zq") => `(tactic| skip)
local macro_rules | `(tactic| walk_at "zq") => `(tactic| skip)
local macro_rules | `(tactic| walk_at "zq") => `(tactic| skip)
local macro_rules | `(tactic| walk_at "zq") => `(tactic| skip)
local macro_rules | `(tactic| walk_at "zq") => `(tactic| skip)
local macro_rules | `(tactic| walk_at "zq") => `(tactic| skip)
local macro_rules | `(tactic| walk_at "zq") => `(tactic| skip)
local macro_rules | `(tactic| walk_at "zq") => `(tactic| skip)
local macro_rules | `(tactic| walk_at "zq") => `(tactic| skip)
local macro_rules | `(tactic| walk_at "zq") => `(tactic| skip)
local macro_rules | `(tactic| walk_at "zq") => `(tactic| skip)
local macro_rules | `(tactic| walk_at "zq") => `(tactic| skip)
local macro_rules | `(tactic| walk_at "zq") => `(tactic| skip)
local macro_rules | `(tactic| walk_at "zq") => `(tactic| skip)
local macro_rules | `(tactic| walk_at "zq") => `(tactic| skip)
local macro_rules | `(tactic| walk_at "zq") => `(tactic| skip)
local macro_rules | `(tactic| walk_at "zq") => `(tactic| skip)
local macro_rules | `(tactic| walk_at "zq") => `(tactic| skip)
local macro_rules | `(tactic| walk_at "zq") => `(tactic| skip)
local macro_rules | `(tactic| walk_at "zq") => `(tactic| skip)
local macro_rules | `(tactic| walk_at "zq") => `(tactic| skip)
local macro_rules | `(tactic| walk_at "zq") => `(tactic| skip)
local macro_rules | `(tactic| walk_at "zq") => `(tactic| skip)
local macro_rules | `(tactic| walk_at "zq") => `(tactic| skip)
local macro_rules | `(tactic| walk_at "zq") => `(tactic| skip)
local macro_rules | `(tactic| walk_at "zq") => `(tactic| skip)
local macro_rules | `(tactic| walk_at "zq") => `(tactic| skip)
local macro_rules | `(tactic| walk_at "zq") => `(tactic| skip)
local macro_rules | `(tactic| walk_at "zq") => `(tactic| skip)
local macro_rules | `(tactic| walk_at "zq") => `(tactic| skip)
local macro_rules | `(tactic| walk_at "zq") => `(tactic| skip)
local macro_rules | `(tactic| walk_at "zq") => `(tactic| skip)
local macro_rules | `(tactic| walk_at "zq") => `(tactic| skip)
local macro_rules | `(tactic| walk_at "zq") => `(tactic| skip)
local macro_rules | `(tactic| walk_at "zq") => `(tactic| skip)
local macro_rules | `(tactic| walk_at "zq") => `(tactic| skip)
local macro_rules | `(tactic| walk_at "zq") => `(tactic| skip)
local macro_rules | `(tactic| walk_at "zq") => `(tactic| skip)
local macro_rules | `(tactic| walk_at "zq") => `(tactic| skip)
local macro_rules | `(tactic| walk_at "zq") => `(tactic| skip)
local macro_rules | `(tactic| walk_at "EndP") => `(tactic| (refine EndP.intro (Fr.keep (by assumption)) ?_))
local macro_rules | `(tactic| walk_at "p_enter") => `(tactic| (
  unfold Pure1
  k_fill
  intro gd env outer A₀ base h₀ L m s mean mg mb B F X T hf hk
  refine' pure_enter B F X T ?kA hf hk ?k6 ?k7 ?k8 ?k9 ?kB ?_ ?c2 ?c3 ?c4 ?c5; (case kA => exact rfl);  (case k6 => k_is); (case k7 => k_is); (case k8 => exact Nat.le_of_ble_eq_true rfl); (case k9 => exact BindsTo.of_eq rfl); (case c5 => decide); (case kB => exact locs rfl); (case c2 => exact rfl); (case c3 => exact rfl); (case c4 => exact rfl); 
  clear hf hk F X T B; intro L' h' F' N' B' X' T'; (try dsimp only); (try k_fold)))
local macro_rules | `(tactic| walk_at "p_enterT") => `(tactic| (
  unfold PureT1
  k_fill
  intro gd env outer A₀ base h₀ L m s mean mg mb tT B F X T hf hk
  refine' pure_enterT tT B F X T ?kA hf hk ?k6 ?k7 ?k8 ?k9 ?kB ?_ ?c2 ?c3 ?c4 ?c5; (case kA => exact rfl);  (case k6 => k_is); (case k7 => k_is); (case k8 => exact Nat.le_of_ble_eq_true rfl); (case k9 => exact BindsTo.of_eq rfl); (case c5 => decide); (case kB => exact locs rfl); (case c2 => exact rfl); (case c3 => exact rfl); (case c4 => exact rfl); 
  clear hf hk F X T B tT; intro L' h' tk0 tT F' N' B' X' T'; (try dsimp only); (try k_fold)))
def lawWords : Nat → Nat → Nat → List (List Nat)
  | 0, s, o => [List.replicate s 97 ++ List.replicate o 98]
  | n + 1, s, o => if s = 0 ∨ o = 0 then [List.replicate s 97 ++ List.replicate o 98] else (lawWords n (s - 1) o).map (97 :: ·) ++ (lawWords n s (o - 1)).map (98 :: ·)
def mkS (l : List Nat) : Str := ⟨l.toArray⟩
def MadeN (h : Heap) (h' : Heap) (l : List (Addr × Obj)) : Prop := ∀ p ∈ l, h'.get? p.1 = some p.2 ∧ h.get? p.1 = none
theorem MadeN.of {h h' : Heap} {L : Addr} {l l' : List (Addr × Obj)} (N : News h L h' l') (hs : l.Sublist l') : MadeN h h' l := fun p hp => ⟨(N p (hs.subset hp)).1, (N p (hs.subset hp)).2.2⟩
theorem MadeN.onto {h₀ h h' : Heap} {L : Addr} {m : Str → Option Value} {news l : List (Addr × Obj)} (Y : MadeN h h' l) (F : Fr h₀ L h m) (N : News h₀ L h news) (k : h.StaysIn h') : News h₀ L h' (l ++ news) := by
  obtain ⟨oL, es, ep, hL, r⟩ := F.ns
  intro p hp
  rcases List.mem_append.mp hp with q | q
  · refine ⟨(Y p q).1, fun e => ?_, ?_⟩
    · have := (Y p q).2; rw [e, hL] at this; cases this
    · cases e : h₀.get? p.1 with
      | none => rfl
      | some o => have := (Y p q).2; rw [F.keep _ _ e] at this; cases this
  · exact keepsNews N k p q
def WordsRes (l : List (List Nat)) (h : Heap) (v : Value) (h' : Heap) : Prop := ∃ D vs, v = .ref D ∧ MadeN h h' [(D, W.listOf vs.toArray 0)] ∧ StrsAre vs (l.map mkS)
def WordsAt (w : World) (n : Nat) : Prop := ∀ (a b : Int) (t1 t2 : Tok), 0 ≤ a → 0 ≤ b → a + b ≤ n → Pure1 w (500 - n) (5000 - 10 * n) 133 [.int a t1, .int b t2]
  (WordsRes (lawWords n a.toNat b.toNat))
theorem WordsAt.out {w : World} {n : Nat} (h : WordsAt w n) (a b : Int) (t1 t2 : Tok) (ha : 0 ≤ a) (hb : 0 ≤ b) (hs : a + b ≤ n) : Pure1 w (500 - n) (5000 - 10 * n) 133 [.int a t1, .int b t2]
  (WordsRes (lawWords n a.toNat b.toNat)) := h a b t1 t2 ha hb hs
local macro_rules | `(tactic| walk_at "p_enterW") => `(tactic| (
  unfold Pure1
  k_fill
  intro gd env outer A₀ base h₀ L m s mean mg mb B F X T hf hk
  refine' pure_enter B F X T ?kA hf hk ?k6 ?k7 ?k8 ?k9 ?kB ?_ ?c2 ?c3 ?c4 ?c5; (case kA => exact rfl);  (case k6 => k_is); (case k7 => k_is); (case k8 => (show 500 - _ < 1000; omega)); (case k9 => exact BindsTo.of_eq rfl); (case c5 => decide); (case kB => exact locs rfl); (case c2 => exact rfl); (case c3 => exact rfl); (case c4 => exact rfl); 
  clear hf hk F X T B; intro L' h' F' N' B' X' T'; (try dsimp only); (try k_fold)))
local macro_rules | `(tactic| walk_at "call ref") => `(tactic| (k_here; k_dflt (refine' pure_use (WordsAt.out ?ih _ _ _ _ ?wa ?wb ?wc) ?B ?F ?X ?T ?N ?h1 ?h2 ?hf ?hk ?hd ?hu ?_; (case ih => assumption); (case wa => omega); (case wb => omega); (case wc => omega); (case B => k_asm); (case F => k_asm); (case X => k_asm); (case T => k_asm); (case N => k_asm); (case h1 => rfl); (case h2 => rfl); (case hf => rfl); (case hk => rfl); (case hd => (show 500 - _ + 1 ≤ 500 - _; omega)); (case hu => (show 5000 - _ + 3 ≤ 5000 - _; omega))); intro v' h' tk' F' N' st' R'; obtain ⟨D', vs', e9, M9, S9⟩ := R'; subst e9; have N9 := MadeN.onto M9 (by k_asm) (by k_asm) st'; clear N' M9))
theorem words_len : ∀ n s o, (lawWords n s o).length ≤ 2 ^ n
  | 0, s, o => by simp [lawWords]
  | n + 1, s, o => by
    have h1 := words_len n (s - 1) o
    have h2 := words_len n s (o - 1)
    unfold lawWords
    split
    · simp only [List.length_singleton]; exact Nat.one_le_two_pow
    · simp only [List.length_append, List.length_map, Nat.pow_succ]; omega
theorem words_size {n s o : Nat} (hn : n < 6) : ((lawWords n s o).map mkS).length ≤ sizeLine := by
  rw [List.length_map]
  exact Nat.le_trans (words_len n s o) (Nat.le_trans (Nat.pow_le_pow_right (by decide) (Nat.le_of_lt hn)) (by decide))
theorem words_mem : ∀ n s o q, q ∈ (lawWords n s o).map mkS → q.length = s + o
  | 0, s, o, q => by intro h; simp [lawWords] at h; subst h; simp [mkS, Str.length]
  | n + 1, s, o, q => by
    unfold lawWords
    split
    · intro h; simp at h; subst h; simp [mkS, Str.length]
    · rename_i hc
      intro h
      simp only [List.map_append, List.map_map, List.mem_append, List.mem_map, Function.comp] at h
      have hc : s ≠ 0 ∧ o ≠ 0 := ⟨fun e => hc (.inl e), fun e => hc (.inr e)⟩
      rcases h with ⟨r, hr, rfl⟩ | ⟨r, hr, rfl⟩
      · have := words_mem n (s - 1) o _ (List.mem_map_of_mem hr)
        simp only [mkS, Str.length, List.size_toArray, List.length_cons] at this ⊢; omega
      · have := words_mem n s (o - 1) _ (List.mem_map_of_mem hr)
        simp only [mkS, Str.length, List.size_toArray, List.length_cons] at this ⊢; omega
theorem pre_elt {prog : Program} {w : World} {A : Around} {E : Value → Shared → Prop} {s s₀ : Shared} {c q : Str} {t u : Tok} (hz : c.length + q.length ≤ 100) (hs : Keeps s₀ s) :
    wpAny (model prog w) A (binaryOp .Add (.str c t) (.str q u)) (fun r s₃ => Carried r (.str (c ++ q)) ∧ Keeps s₀ s₃) E s := by
  refine add_str (fun t' tk => ⟨.str _ _, ?_⟩) (Nat.le_trans hz (by decide))
  obtain ⟨h', tk0, rfl, k⟩ := hs
  exact ⟨h', tk, rfl, k⟩
theorem mkS_app (x y : List Nat) : mkS x ++ mkS y = mkS (x ++ y) := by
  show Str.append _ _ = _
  simp [Str.append, mkS]
theorem mkS_cons (c : Nat) (y : List Nat) : mkS [c] ++ mkS y = mkS (c :: y) := mkS_app [c] y
theorem mkS_mul (c : Nat) (k : Int) : Txt.mul (mkS [c]) k = mkS (List.replicate k.toNat c) := by
  unfold Txt.mul
  have hf : ∀ (n : Nat) (x : Array Nat), List.foldl (fun x1 x2 => x1 ++ x2) x (List.replicate n #[c]) = x ++ (List.replicate n c).toArray := by
    intro n
    induction n with
    | zero => intro x; simp
    | succ n ih => intro x; rw [List.replicate_succ, List.foldl_cons, ih, List.replicate_succ]; simp [← Array.toList_inj]
  simp only [mkS, Str.length]
  by_cases h : k < 1
  · rw [if_pos h]; have : k.toNat = 0 := by omega
    rw [this]; rfl
  · rw [if_neg h]
    by_cases h1 : k = 1
    · subst h1; rfl
    · simp [h1, hf]
theorem lawWords_base {n : Nat} {a b : Int} (h : a = 0 ∨ b = 0) : lawWords (n + 1) a.toNat b.toNat = [List.replicate a.toNat 97 ++ List.replicate b.toNat 98] := by
  have : a.toNat = 0 ∨ b.toNat = 0 := by omega
  simp only [lawWords, if_pos this]
theorem lawWords_more {n : Nat} {a b : Int} (h : a ≠ 0) (h2 : b ≠ 0) (ha : 0 ≤ a) (hb : 0 ≤ b) : lawWords (n + 1) a.toNat b.toNat = (lawWords n (a - 1).toNat b.toNat).map (97 :: ·) ++ (lawWords n a.toNat (b - 1).toNat).map (98 :: ·) := by
  have h1 : ¬ (a.toNat = 0 ∨ b.toNat = 0) := by omega
  simp only [lawWords, if_neg h1]
  congr <;> omega
theorem words_one {a b : Int} {t : Tok} : StrsAre [.str (Txt.mul (Str.ofString "a") a ++ Txt.mul (Str.ofString "b") b) t] ([List.replicate a.toNat 97 ++ List.replicate b.toNat 98].map mkS) := by
  have e1 : Str.ofString "a" = mkS [97] := by decide
  have e2 : Str.ofString "b" = mkS [98] := by decide
  rw [e1, e2, mkS_mul, mkS_mul, mkS_app]
  exact .cons _ _ .nil
theorem words_two {vs : List Value} {xs ys : List (List Nat)} (h : StrsAre vs ((xs.map mkS).map (Str.ofString "a" ++ ·) ++ (ys.map mkS).map (Str.ofString "b" ++ ·))) : StrsAre vs ((xs.map (97 :: ·) ++ ys.map (98 :: ·)).map mkS) := by
  have e1 : Str.ofString "a" = mkS [97] := by decide
  have e2 : Str.ofString "b" = mkS [98] := by decide
  rw [e1, e2] at h
  have k : ∀ (c : Nat) (l : List (List Nat)), (l.map mkS).map (mkS [c] ++ ·) = (l.map (c :: ·)).map mkS := by
    intro c l
    simp only [List.map_map]
    exact List.map_congr_left fun q _ => mkS_cons c q
  rw [List.map_append, ← k, ← k]
  exact h
theorem pre_S (c : Str) {vs : List Value} {xs : List Str} (cv : CarriedAll vs ((xs.filter fun _ => true).map fun q => PyData.str (c ++ q))) : StrsAre vs (xs.map (c ++ ·)) := by
  rw [List.filter_eq_self.mpr (fun _ _ => rfl)] at cv
  refine StrsAre.ofCarried ?_
  rw [List.map_map]
  exact cv
theorem app_S {vs : List Value} {xs : List Str} (h1 : StrsAre vs xs) {ws : List Value} {ys : List Str} (h2 : StrsAre ws ys) : StrsAre (vs ++ ws) (xs ++ ys) := by
  induction h1 with
  | nil => exact h2
  | cons y t r ih => exact .cons y t ih
theorem add_S {w : World} {A : Around} {prog : Program} {E : Value → Shared → Prop} {s : Shared} {h₀ : Heap} {L : Addr} {m : Str → Option Value} {news : List (Addr × Obj)} {l b : Addr} {vs ws : List Value} {xs ys : List Str} {c d : Str} {Q : Value → Shared → Prop} (F : Fr h₀ L s.heap m) (N : News h₀ L s.heap news) (hl : s.heap.IsList l vs.toArray) (hb : s.heap.IsList b ws.toArray)
    (cv : CarriedAll vs ((xs.filter fun _ => true).map fun q => PyData.str (c ++ q))) (cw : CarriedAll ws ((ys.filter fun _ => true).map fun q => PyData.str (d ++ q)))
    (h1 : xs.length ≤ 500) (h2 : ys.length ≤ 500) (h : ∀ a h', Fr h₀ L h' m → News h₀ L h' ((a, W.listOf (vs ++ ws).toArray 0) :: news) → StrsAre (vs ++ ws) (xs.map (c ++ ·) ++ ys.map (d ++ ·)) → Q (.ref a) { s with heap := h' }) :
    wpAny (model prog w) A (binaryOp .Add (.ref l) (.ref b)) Q E s := by
  have e1 := (pre_S c cv).length
  have e2 := (pre_S d cw).length
  simp only [List.length_map] at e1 e2
  exact add_lists F N hl hb (fun h' F' N' => h _ h' F' N' (app_S (pre_S c cv) (pre_S d cw))) (by rw [e1, e2]; exact Nat.le_trans (Nat.add_le_add h1 h2) (by decide))
theorem words_500 {n s o : Nat} (hn : n < 6) : ((lawWords n s o).map mkS).length ≤ 500 := by
  rw [List.length_map]
  exact Nat.le_trans (words_len n s o) (Nat.le_trans (Nat.pow_le_pow_right (by decide) (Nat.le_of_lt hn)) (by decide))
local macro_rules | `(tactic| walk_at "binaryOp Add str str") => `(tactic| ((with_reducible show wpAny _ _ _ (fun r s₃ => Carried r _ ∧ Keeps _ s₃) _ _); refine' pre_elt ?pz ⟨_, _, rfl, fun _ _ e => e⟩; (case pz => (show (Str.ofString _).length + _ ≤ 100; (simp only [words_mem _ _ _ _ ‹_ ∈ List.map mkS _›]); (show 1 + _ ≤ 100; omega)))))
theorem comp_news {h₀ h' : Heap} {L D : Addr} {m : Str → Option Value} {news : List (Addr × Obj)} {ys : List Value} (F : Fr h₀ L h' m) (N : News h₀ L h' news) (q1 : h₀.get? D = none) (q2 : h'.IsList D ys.toArray) (q3 : NewPlain h' news D ys.toArray) :
    ∃ n, News h₀ L h' ((D, W.listOf ys.toArray n) :: news) := by
  obtain ⟨⟨n, e⟩, _⟩ := q3
  refine ⟨n, fun p hp => ?_⟩
  rcases List.mem_cons.mp hp with rfl | hp
  · exact ⟨e, ne_locals_of_isList F q2, q1⟩
  · exact N p hp
local macro_rules | `(tactic| walk_at "binaryOp Add ref ref") => `(tactic| ((rename Fr _ _ _ _ => F'); (rename News _ _ _ _ => N'); (with_unfolding_all refine' add_S F' N' (News.isList N' (by first | exact .head _ | exact .tail _ (.head _) | exact .tail _ (.tail _ (.head _)) | exact .tail _ (.tail _ (.tail _ (.head _))))) (News.isList N' (by first | exact .head _ | exact .tail _ (.head _) | exact .tail _ (.tail _ (.head _)) | exact .tail _ (.tail _ (.tail _ (.head _))))) (by assumption) (by assumption) (words_500 (by assumption)) (words_500 (by assumption)) ?_); (intro D' h' F' N' S9)))
local macro_rules | `(tactic| walk_at "pyIter ref") => `(tactic| focus ((with_reducible show wpAny _ _ _ (CompPost _ _ _ _ _ _ _ (Expr.BinOp (Expr.Constant (Const.str (Str.ofString "a")) _ _) _ _ _) _) _ _); (rename Fr _ _ _ _ => F'); (rename News _ _ _ _ => N'); (with_unfolding_all refine' srcC_listDW (pz := fun _ => true) (d := fun q => PyData.str (Str.ofString "a" ++ q)) rfl (News.isList N' (by first | exact .head _ | exact .tail _ (.head _) | exact .tail _ (.tail _ (.head _)) | exact .tail _ (.tail _ (.tail _ (.head _))))) (StrsAre.areOf (by assumption)) F' N' (fun _ _ _ _ _ _ _ _ _ _ _ => wpAny_pure ⟨rfl, ⟨_, _, rfl, fun _ _ e => e⟩⟩) ?_ ?_ (words_size (by assumption))); (intros; (rename ItemKind.is _ _ _ => i'); (obtain ⟨_, e'⟩ := ItemKind.str_is i'; subst e')); rotate_left; (intro D' ys' h' tk' F' N' q1' q2' q3' q4'; obtain ⟨n', N9⟩ := comp_news F' N' q1' q2' q3'; clear N' q1' q2' q3'); rotate_left))
local macro_rules | `(tactic| walk_at "pyIter ref") => `(tactic| focus ((with_reducible show wpAny _ _ _ (CompPost _ _ _ _ _ _ _ (Expr.BinOp (Expr.Constant (Const.str (Str.ofString "b")) _ _) _ _ _) _) _ _); (rename Fr _ _ _ _ => F'); (rename News _ _ _ _ => N'); (with_unfolding_all refine' srcC_listDW (pz := fun _ => true) (d := fun q => PyData.str (Str.ofString "b" ++ q)) rfl (News.isList N' (by first | exact .head _ | exact .tail _ (.head _) | exact .tail _ (.tail _ (.head _)) | exact .tail _ (.tail _ (.tail _ (.head _))))) (StrsAre.areOf (by assumption)) F' N' (fun _ _ _ _ _ _ _ _ _ _ _ => wpAny_pure ⟨rfl, ⟨_, _, rfl, fun _ _ e => e⟩⟩) ?_ ?_ (words_size (by assumption))); (intros; (rename ItemKind.is _ _ _ => i'); (obtain ⟨_, e'⟩ := ItemKind.str_is i'; subst e')); rotate_left; (intro D' ys' h' tk' F' N' q1' q2' q3' q4'; obtain ⟨n', N9⟩ := comp_news F' N' q1' q2' q3'; clear N' q1' q2' q3'); rotate_left))
theorem words_step (w : World) (n : Nat) (hn : n < 6) (ih : WordsAt w n) : WordsAt w (n + 1) := by
  intro a b t1 t2 ha hb hs
  walk_at "p_enterW"
  k_steps
  · (rename News _ _ _ _ => N')
    refine ⟨_, _, rfl, MadeN.of N' (.cons_cons _ .slnil), ?_⟩
    rw [lawWords_base (by omega)]; exact words_one
  · (rename News _ _ _ _ => N')
    refine ⟨_, _, rfl, MadeN.of N' (.cons_cons _ .slnil), ?_⟩
    rw [lawWords_base (by omega)]; exact words_one
  · (rename News _ _ _ _ => N')
    refine ⟨_, _, rfl, MadeN.of N' (.cons_cons _ (List.nil_sublist _)), ?_⟩
    rw [lawWords_more (by assumption) (by assumption) ha hb]; exact words_two (by assumption)
theorem words_zero (w : World) : WordsAt w 0 := by
  intro a b t1 t2 ha hb hs
  obtain rfl : a = 0 := by omega
  obtain rfl : b = 0 := by omega
  walk_at "p_enterW"
  k_steps
  (rename News _ _ _ _ => N')
  refine ⟨_, _, rfl, MadeN.of N' (.cons_cons _ .slnil), ?_⟩
  exact words_one (a := 0) (b := 0)
theorem words_all (w : World) : ∀ n, n ≤ 6 → WordsAt w n
  | 0, _ => words_zero w
  | n + 1, h => words_step w n h (words_all w n (Nat.le_of_succ_le h))
theorem wordsC (w : World) (a b : Int) (t1 t2 : Tok) (ha : 0 ≤ a) (hb : 0 ≤ b) (hs : a + b ≤ 6) : Pure1 w 494 4940 133 [.int a t1, .int b t2] (WordsRes (lawWords 6 a.toNat b.toNat)) := (words_all w 6 (Nat.le_refl _)).out a b t1 t2 ha hb hs
end
end Mine
-- part Fast
namespace Mine
theorem slice_to {l : List Nat} {j : Nat} (h : j ≤ l.length) : Txt.slice (mkS l) none (some (j : Int)) = mkS (l.take j) := by
  have e := beq_iff_eq.mp (slice_closes_to (x := mkS l) (j := (j : Int)) ⟨by omega, by show (j : Int) ≤ (l.toArray.toList.length : Int); simp; exact h⟩)
  rw [e]
  simp [mkS]
theorem slice_from {l : List Nat} {i : Nat} (h : i ≤ l.length) : Txt.slice (mkS l) (some (i : Int)) none = mkS (l.drop i) := by
  have e := slice_from_eq (x := mkS l) (i := (i : Int)) (b := (l.length : Int)) (by omega) (by show (i : Int) ≤ (l.toArray.size : Int); simp; exact h) (by show (l.length : Int) = (l.toArray.size : Int); simp)
  rw [e]
  have : ((l.length : Int) - (i : Int)).toNat = l.length - i := by omega
  rw [this]
  simp only [mkS, Int.toNat_natCast, Str.mk.injEq]
  congr 1
  rw [List.take_of_length_le (by simp)]
theorem slice_mid {l : List Nat} {i j : Nat} (h1 : i ≤ j) (h2 : j ≤ l.length) : Txt.slice (mkS l) (some (i : Int)) (some (j : Int)) = mkS ((l.drop i).take (j - i)) := by
  have e := beq_iff_eq.mp (slice_closes (x := mkS l) (i := (i : Int)) (j := (j : Int)) ⟨by omega, by omega, by show (j : Int) ≤ (l.toArray.toList.length : Int); simp; exact h2⟩)
  rw [e]
  have : ((j : Int) - (i : Int)).toNat = j - i := by omega
  rw [this]
  simp [mkS]
theorem len_mkS (l : List Nat) : (mkS l).length = l.length := by show l.toArray.size = _; simp
theorem starts_L (l p : List Nat) : Txt.startswith (mkS l) (mkS p) = (decide (p.length ≤ l.length) && (l.take p.length == p)) := by
  unfold Txt.startswith
  rw [StrLaws.subAt_eq, len_mkS, len_mkS]
  simp [mkS]
theorem ends_L (l p : List Nat) : Txt.endswith (mkS l) (mkS p) = (decide (p.length ≤ l.length) && ((l.drop (l.length - p.length)).take p.length == p)) := by
  unfold Txt.endswith
  rw [StrLaws.subAt_eq, len_mkS, len_mkS]
  simp [mkS]
open PySem.StrLaws PySem.Builtin.Str in
/-- a text with the three dots once -/
theorem dots_occ {p q : List Nat} (hp : ∀ c ∈ p, c ≠ 46) (hq : ∀ c ∈ q, c ≠ 46) :
    occurrences (mkS (p ++ [46, 46, 46] ++ q)) (mkS [46, 46, 46]) 0 (mkS (p ++ [46, 46, 46] ++ q)).length ((mkS (p ++ [46, 46, 46] ++ q)).length + 1) = [p.length] := by
  have len : (mkS (p ++ [46, 46, 46] ++ q)).length = p.length + 3 + q.length := by rw [len_mkS]; simp only [List.length_append, List.length_cons, List.length_nil]
  have len3 : (mkS [46, 46, 46]).length = 3 := rfl
  have at_p : At (mkS (p ++ [46, 46, 46] ++ q)) (mkS [46, 46, 46]) (mkS (p ++ [46, 46, 46] ++ q)).length p.length := by
    refine ⟨by rw [len, len3]; omega, ?_⟩
    rw [subAt_eq, len3]
    simp [mkS]
  have only : ∀ k, At (mkS (p ++ [46, 46, 46] ++ q)) (mkS [46, 46, 46]) (mkS (p ++ [46, 46, 46] ++ q)).length k → k = p.length := by
    intro k ⟨h1, h2⟩
    rw [len, len3] at h1
    rw [subAt_eq, len3] at h2
    have h2 : ((p ++ [46, 46, 46] ++ q).drop k).take 3 = [46, 46, 46] := by simpa [mkS] using h2
    have g : ∀ j, j < 3 → (p ++ [46, 46, 46] ++ q)[k + j]? = some 46 := by
      intro j hj
      have e : (((p ++ [46, 46, 46] ++ q).drop k).take 3)[j]? = some 46 := by
        rw [h2]
        have : j = 0 ∨ j = 1 ∨ j = 2 := by omega
        rcases this with rfl | rfl | rfl <;> rfl
      rw [List.getElem?_take_of_lt hj, List.getElem?_drop] at e
      exact e
    by_cases hlt : k < p.length
    · have e := g 0 (by omega)
      rw [List.append_assoc, List.getElem?_append_left (by omega)] at e
      exact absurd rfl (hp 46 (List.mem_of_getElem? e))
    · by_cases hgt : p.length < k
      · have e := g 2 (by omega)
        rw [List.getElem?_append_right (by simp only [List.length_append, List.length_cons, List.length_nil]; omega)] at e
        exact absurd rfl (hq 46 (List.mem_of_getElem? e))
      · omega
  obtain ⟨f, hG, hn⟩ := occ_tight (mkS (p ++ [46, 46, 46] ++ q)) (mkS [46, 46, 46]) (by rw [len3]; omega)
  generalize occurrences (mkS (p ++ [46, 46, 46] ++ q)) (mkS [46, 46, 46]) 0 (mkS (p ++ [46, 46, 46] ++ q)).length ((mkS (p ++ [46, 46, 46] ++ q)).length + 1) = cuts at hG
  cases cuts with
  | nil =>
    have e : f = 0 := hG
    exact absurd at_p (hn _ (by omega))
  | cons c r =>
    obtain ⟨_, h2, _, h4⟩ := hG
    have hc := only c h2
    subst hc
    cases r with
    | nil => rfl
    | cons d r' =>
      obtain ⟨g1, g2, _⟩ := h4
      have hd := only d g2
      rw [len3] at g1
      omega
open PySem.StrLaws PySem.Builtin.Str in
theorem dots_in {p q : List Nat} : (occurrences (mkS (p ++ [46, 46, 46] ++ q)) (mkS [46, 46, 46]) 0 (mkS (p ++ [46, 46, 46] ++ q)).length 1).isEmpty = false := by
  have h := (found_iff (mkS (p ++ [46, 46, 46] ++ q)) (mkS [46, 46, 46])).mpr ⟨p.length, by rw [len_mkS, len_mkS]; simp only [List.length_append, List.length_cons, List.length_nil]; omega, by rw [subAt_eq]; simp [mkS, Str.length]⟩
  simpa using h
theorem kind_256 {l : List Nat} (h : ∀ c ∈ l, c < 256) : Builtin.Str.strKind (mkS l) = 1 := by
  unfold Builtin.Str.strKind
  rw [if_pos]
  rw [← Array.all_toList]
  exact List.all_eq_true.mpr fun c hc => decide_eq_true (h c hc)
theorem split_dots {p q : List Nat} (hp : ∀ c ∈ p, c ≠ 46 ∧ c < 256) (hq : ∀ c ∈ q, c ≠ 46 ∧ c < 256) : Txt.split (mkS (p ++ [46, 46, 46] ++ q)) (mkS [46, 46, 46]) = [mkS p, mkS q] := by
  have ho := dots_occ (fun c hc => (hp c hc).1) (fun c hc => (hq c hc).1)
  unfold Txt.split
  rw [ho]
  have k1 : Builtin.Str.strKind (mkS (p ++ [46, 46, 46] ++ q)) = 1 := kind_256 fun c hc => by
    rcases List.mem_append.mp hc with hc | hc
    · rcases List.mem_append.mp hc with hc | hc
      · exact (hp c hc).2
      · simp at hc; omega
    · exact (hq c hc).2
  have k2 : Builtin.Str.strKind (mkS [46, 46, 46]) = 1 := kind_256 fun c hc => by simp at hc; omega
  have len : (mkS (p ++ [46, 46, 46] ++ q)).length = p.length + 3 + q.length := by rw [len_mkS]; simp only [List.length_append, List.length_cons, List.length_nil]
  have len3 : (mkS [46, 46, 46]).length = 3 := rfl
  rw [k1, k2, len, len3]
  rw [if_neg (by simp; omega), if_neg (by simp)]
  rw [PySem.StrLaws.partsBetween_eq]
  show [Builtin.Str.strSub _ 0 p.length, Builtin.Str.strSub _ (p.length + 3) _] = _
  have s1 : ∀ a b, Builtin.Str.strSub (mkS (p ++ [46, 46, 46] ++ q)) a b = mkS (((p ++ [46, 46, 46] ++ q).drop a).take (b - a)) := by
    intro a b
    refine PySem.Str.ext' (Array.toList_inj.mp ?_)
    rw [PySem.StrLaws.strSub_toList]
    rfl
  rw [s1, s1, len]
  congr 2
  · simp
  · simp
end Mine
-- part ComeP
namespace Mine
def allW : Nat → List (List Nat)
  | 0 => [[]]
  | n + 1 => (allW n).map (97 :: ·) ++ (allW n).map (98 :: ·)
theorem mem_allW : ∀ (n : Nat) (l : List Nat), l.length = n → (∀ c ∈ l, c = 97 ∨ c = 98) → l ∈ allW n
  | 0, l, h, _ => by rw [List.length_eq_zero_iff.mp h]; exact .head _
  | n + 1, [], h, _ => by cases h
  | n + 1, c :: l, h, hc => by
    have ih := mem_allW n l (Nat.succ.inj h) fun x hx => hc x (List.mem_cons_of_mem _ hx)
    unfold allW
    rcases hc c (List.mem_cons_self ..) with rfl | rfl
    · exact List.mem_append.mpr (.inl (List.mem_map_of_mem ih))
    · exact List.mem_append.mpr (.inr (List.mem_map_of_mem ih))
def fits (now one two : Str) (i j : Int) : Bool :=
  Txt.startswith now (Txt.slice now none (some i) ++ one) && (Txt.endswith now (two ++ Txt.slice now (some j) none) && decide ((Txt.slice now none (some i) ++ one).length + (two ++ Txt.slice now (some j) none).length ≤ now.length))
def wantS (now one two : Str) (i j : Int) : Str := Txt.slice now none (some i) ++ one ++ Str.ofString "..." ++ two ++ Txt.slice now (some j) none
def chg (now one two : Str) (i j : Int) : Str := Txt.slice now none (some i) ++ two ++ Txt.slice now (some (i + 2)) (some (j - 2)) ++ one ++ Txt.slice now (some j) none
def fitsL (l one two : List Nat) (i k : Nat) : Bool :=
  (decide ((l.take i ++ one).length ≤ l.length) && (l.take (l.take i ++ one).length == l.take i ++ one)) &&
  ((decide ((two ++ l.drop k).length ≤ l.length) && ((l.drop (l.length - (two ++ l.drop k).length)).take (two ++ l.drop k).length == two ++ l.drop k)) && decide ((l.take i ++ one).length + (two ++ l.drop k).length ≤ l.length))
def chgL (l one two : List Nat) (i k : Nat) : List Nat := l.take i ++ two ++ (l.drop (i + 2)).take (k - 2 - (i + 2)) ++ one ++ l.drop k
theorem fits_is {l one two : List Nat} {i k : Nat} (hk : k ≤ l.length) (hi : i ≤ l.length) : fits (mkS l) (mkS one) (mkS two) (i : Int) (k : Int) = fitsL l one two i k := by
  unfold fits fitsL
  rw [slice_to hi, slice_from hk, mkS_app, mkS_app, starts_L, ends_L, len_mkS, len_mkS, len_mkS]
theorem chg_is {l one two : List Nat} {i k : Nat} (hk : k ≤ l.length) (h4 : i + 4 ≤ k) : chg (mkS l) (mkS one) (mkS two) (i : Int) (k : Int) = mkS (chgL l one two i k) := by
  unfold chg chgL
  have e1 : ((i : Int) + 2) = ((i + 2 : Nat) : Int) := by omega
  have e2 : ((k : Int) - 2) = ((k - 2 : Nat) : Int) := by omega
  rw [e1, e2, slice_to (by omega), slice_from hk, slice_mid (by omega) (by omega), mkS_app, mkS_app, mkS_app, mkS_app]
theorem fits_four {l one two : List Nat} {i j : Nat} (h6 : l.length = 6) (h1 : one.length = 2) (h2 : two.length = 2) (hj : j < 4 - i) (h : fitsL l one two i (i + 3 + j) = true) : i + 4 ≤ i + 3 + j := by
  unfold fitsL at h
  simp only [Bool.and_eq_true, decide_eq_true_eq, List.length_append, List.length_take, List.length_drop] at h
  have := h.2.2
  omega
end Mine
-- part ComeQ
namespace Mine
def GoodW (x : Str) : Prop := x.length = 6 ∧ ∀ c ∈ x.cps.toList, c = 97 ∨ c = 98
theorem GoodW.mem {x : Str} (h : GoodW x) : ∃ l ∈ allW 6, x = mkS l := by
  refine ⟨x.cps.toList, mem_allW 6 _ ?_ h.2, ?_⟩
  · rw [← h.1]; exact Array.length_toList
  · cases x; rfl
def OneTwo (one two : Str) : Prop := (one = Str.ofString "ab" ∧ two = Str.ofString "ba") ∨ (one = Str.ofString "ba" ∧ two = Str.ofString "ab")
theorem one_two {one two : Str} (ho : OneTwo one two) : ∃ a b : List Nat, one = mkS a ∧ two = mkS b ∧ a.length = 2 ∧ b.length = 2 ∧ (∀ c ∈ a, c = 97 ∨ c = 98) ∧ ∀ c ∈ b, c = 97 ∨ c = 98 := by
  have eab : Str.ofString "ab" = mkS [97, 98] := by decide
  have eba : Str.ofString "ba" = mkS [98, 97] := by decide
  rcases ho with ⟨rfl, rfl⟩ | ⟨rfl, rfl⟩
  · exact ⟨[97, 98], [98, 97], eab, eba, rfl, rfl, by decide, by decide⟩
  · exact ⟨[98, 97], [97, 98], eba, eab, rfl, rfl, by decide, by decide⟩
theorem come_facts {one two : Str} (ho : OneTwo one two) {x : Str} (hg : GoodW x) {i j : Nat} (hi : i < 4) (hj : j < 4 - i) :
    Txt.split (wantS x one two (0 + (i : Int)) (0 + (i : Int) + 3 + (j : Int))) (Str.ofString "...") = [Txt.slice x none (some (0 + (i : Int))) ++ one, two ++ Txt.slice x (some (0 + (i : Int) + 3 + (j : Int))) none] ∧
    (Builtin.Str.occurrences (wantS x one two (0 + (i : Int)) (0 + (i : Int) + 3 + (j : Int))) (Str.ofString "...") 0 (wantS x one two (0 + (i : Int)) (0 + (i : Int) + 3 + (j : Int))).length 1).isEmpty = false ∧
    (fits x one two (0 + (i : Int)) (0 + (i : Int) + 3 + (j : Int)) = true → GoodW (chg x one two (0 + (i : Int)) (0 + (i : Int) + 3 + (j : Int)))) := by
  obtain ⟨l, hl, rfl⟩ := hg.mem
  have h6 : l.length = 6 := by have := hg.1; rw [len_mkS] at this; exact this
  have hc : ∀ c ∈ l, c = 97 ∨ c = 98 := hg.2
  obtain ⟨a, b, rfl, rfl, la, lb, ha, hb⟩ := one_two ho
  have e1 : (0 + (i : Int)) = (i : Int) := by omega
  have e2 : ((i : Int) + 3 + (j : Int)) = ((i + 3 + j : Nat) : Int) := by omega
  have e3 : Str.ofString "..." = mkS [46, 46, 46] := by decide
  have lo : ∀ c, (c = 97 ∨ c = 98) → c ≠ 46 ∧ c < 256 := fun c h => by omega
  have hp : ∀ c ∈ l.take i ++ a, c ≠ 46 ∧ c < 256 := fun c h => lo c ((List.mem_append.mp h).elim (fun h => hc c (List.mem_of_mem_take h)) (ha c))
  have hq : ∀ c ∈ b ++ l.drop (i + 3 + j), c ≠ 46 ∧ c < 256 := fun c h => lo c ((List.mem_append.mp h).elim (hb c) (fun h => hc c (List.mem_of_mem_drop h)))
  have ew : wantS (mkS l) (mkS a) (mkS b) (0 + (i : Int)) (0 + (i : Int) + 3 + (j : Int)) = mkS (l.take i ++ a ++ [46, 46, 46] ++ (b ++ l.drop (i + 3 + j))) := by
    unfold wantS
    rw [e1, e2, e3, slice_to (by omega), slice_from (by omega), mkS_app, mkS_app, mkS_app, mkS_app]
    simp only [List.append_assoc]
  refine ⟨?_, ?_, fun hf => ?_⟩
  · rw [ew, e3, split_dots hp hq, e1, e2, slice_to (by omega), slice_from (by omega), mkS_app, mkS_app]
  · rw [ew, e3]; exact dots_in
  · rw [e1, e2, fits_is (by omega) (by omega)] at hf
    have h4 := fits_four h6 la lb hj hf
    rw [e1, e2, chg_is (by omega) h4]
    refine ⟨?_, ?_⟩
    · rw [len_mkS]
      simp only [chgL, List.length_append, List.length_take, List.length_drop]; omega
    · intro c h
      have h : c ∈ chgL l a b i (i + 3 + j) := h
      unfold chgL at h
      rcases List.mem_append.mp h with h | h
      · rcases List.mem_append.mp h with h | h
        · rcases List.mem_append.mp h with h | h
          · rcases List.mem_append.mp h with h | h
            · exact hc c (List.mem_of_mem_take h)
            · exact hb c h
          · exact hc c (List.mem_of_mem_drop (List.mem_of_mem_take h))
        · exact ha c h
      · exact hc c (List.mem_of_mem_drop h)
def putS (xs : List Str) (c : Str) : List Str := if c ∈ xs then xs else xs ++ [c]
def stepJ (now one two : Str) (i : Nat) (xs : List Str) (j : Nat) : List Str :=
  if fits now one two (0 + (i : Int)) (0 + (i : Int) + 3 + (j : Int)) then putS xs (chg now one two (0 + (i : Int)) (0 + (i : Int) + 3 + (j : Int))) else xs
def stepI (now one two : Str) (xs : List Str) (i : Nat) : List Str := (List.range (4 - i)).foldl (stepJ now one two i) xs
def turnW (now one two : Str) (xs : List Str) : List Str := (List.range 4).foldl (stepI now one two) xs
def comeW : Nat → Nat → List Str → List Str
  | 0, _, xs => xs
  | f + 1, k, xs => match xs[k]? with
    | none => xs
    | some now => comeW f (k + 1) (turnW now (Str.ofString "ba") (Str.ofString "ab") (turnW now (Str.ofString "ab") (Str.ofString "ba") xs))
/-- what the list of the found words keeps -/
structure FInv (B : Nat) (vs : List Value) (xs : List Str) : Prop where
  sa : StrsAre vs xs
  good : ∀ x ∈ xs, GoodW x
  len : xs.length ≤ B
theorem strs_snoc {vs : List Value} {xs : List Str} (h : StrsAre vs xs) (c : Str) (t : Tok) : StrsAre (vs ++ [.str c t]) (xs ++ [c]) := app_S h (.cons c t .nil)
theorem FInv.put {B : Nat} {vs : List Value} {xs : List Str} (h : FInv B vs xs) {c : Str} (t : Tok) (hc : GoodW c) (hn : c ∉ xs) : FInv (B + 1) (vs ++ [.str c t]) (putS xs c) := by
  rw [putS, if_neg hn]
  refine ⟨strs_snoc h.sa c t, fun x hx => ?_, ?_⟩
  · rcases List.mem_append.mp hx with hx | hx
    · exact h.good x hx
    · rw [List.mem_singleton.mp hx]; exact hc
  · have := h.len; simp only [List.length_append, List.length_singleton]; omega
theorem FInv.same {B : Nat} {vs : List Value} {xs : List Str} (h : FInv B vs xs) {c : Str} (hn : c ∈ xs) : FInv (B + 1) vs (putS xs c) := by
  rw [putS, if_pos hn]
  exact ⟨h.sa, h.good, Nat.le_succ_of_le h.len⟩
theorem FInv.up {B B' : Nat} {vs : List Value} {xs : List Str} (h : FInv B vs xs) (hb : B ≤ B') : FInv B' vs xs := ⟨h.sa, h.good, Nat.le_trans h.len hb⟩
end Mine
-- part Ke2
namespace Mine
/-- what the match tells -/
def IsFit (v : Value) (now one two : Str) (i j : Int) : Prop := ∃ b, v = .bool b ∧ b = fits now one two i j
def FitIs (b : Bool) (now one two : Str) (i j : Int) : Prop := b = fits now one two i j
theorem IsFit.out {v : Value} {now one two : Str} {i j : Int} (h : IsFit v now one two i j) : ∃ b, v = .bool b ∧ FitIs b now one two i j := h
theorem ell2 (w : World) (now one two : Str) (i j : Int) (t1 t2 : Tok)
    (hsp : Txt.split (Txt.slice now none (some i) ++ one ++ Str.ofString "..." ++ two ++ Txt.slice now (some j) none) (Str.ofString "...") = [Txt.slice now none (some i) ++ one, two ++ Txt.slice now (some j) none])
    (hocc : (Builtin.Str.occurrences (Txt.slice now none (some i) ++ one ++ Str.ofString "..." ++ two ++ Txt.slice now (some j) none) (Str.ofString "...") 0 (Txt.slice now none (some i) ++ one ++ Str.ofString "..." ++ two ++ Txt.slice now (some j) none).length 1).isEmpty = false)
    (hn : now.length = 6) (h1 : one.length = 2) (h2 : two.length = 2) :
    Pure1 w 600 6000 45 [.str (Txt.slice now none (some i) ++ one ++ Str.ofString "..." ++ two ++ Txt.slice now (some j) none) t1, .str now t2] (fun _ v _ => IsFit v now one two i j) := by
  have a := PyProof.Txt.length_slice_le now none (some i)
  have b := PyProof.Txt.length_slice_le now (some j) none
  have hdd : (Str.ofString "...").length = 3 := by decide
  have Z := ell1 w _ now _ _ t1 t2 hsp hocc (by rw [Str.length_append]; omega) (by rw [Str.length_append]; omega) (by simp only [Str.length_append]; omega) (by omega) (by rw [Str.length_append]; omega) (by rw [Str.length_append]; omega)
  intro gd env outer A₀ base h₀ L m s mean mg mb B F X T hf hk
  exact wpAny_mono (Z gd env outer A₀ base h₀ L m s mean mg mb B F X T hf hk) (fun v s' e => ⟨e.1, e.2.1, _, e.2.2, rfl⟩) fun _ _ e => e
end Mine
-- part Rules3
namespace Mine
section
variable {prog : Program} {w : World} {A : Around} {E : Value → Shared → Prop} {s : Shared} {h₀ : Heap} {L D : Addr} {m : Str → Option Value} {news news' : List (Addr × Obj)} {Q : Value → Shared → Prop}
theorem append_V {vs : List Value} {n : Nat} {x : Value} (F : Fr h₀ L s.heap m) (N : News h₀ L s.heap news) (U : Upd D (W.listOf vs.toArray n) (W.listOf (vs ++ [x]).toArray (n + 1)) news news') (hz : vs.length ≤ 100000)
    (h : ∀ h', Fr h₀ L h' m → News h₀ L h' news' → Q .none { s with heap := h' }) : wpAny (model prog w) A (call (.builtin "list.append") [.ref D, x]) Q E s := by
  have e : (vs ++ [x]).toArray = vs.toArray.push x := by simp
  rw [e] at U
  exact append_K F N U h (by rw [List.size_toArray, sizeLine_eq]; omega)
theorem sorted_V {l : Addr} {vs : List Value} {ss : List Str} {k : Nat} (F : Fr h₀ L s.heap m) (N : News h₀ L s.heap news) (hm : (l, W.listOf vs.toArray k) ∈ news) (hS : StrsAre vs ss) (h64 : ss.length < 64)
    (h : ∀ (h' : Heap) (D : Addr) (vs' : List Value) (ss' : List Str) (e : Nat), Fr h₀ L h' m → News h₀ L h' ((D, W.listOf vs'.toArray e) :: news) → (∀ p ∈ news, p.1 < D) →
      StrsAre vs' ss' → ss'.Perm ss → sortedS ss' = true → Q (.ref D) { s with heap := h' }) :
    wpAny (model prog w) A (call (.builtin "sorted") [.ref l]) Q E s :=
  sorted_N_str F N (News.isList N hm) hS (by rw [hS.length]; exact h64) fun h' vs' ss' e F' N' a b c => h h' _ vs' ss' e F' N' (fun p hp => Nat.lt_succ_of_lt (Heap.lt_size (N p hp).1)) a b c
end
end Mine
-- part ComeR
namespace Mine
theorem ncont {l : List Str} {z a : Str} (h : l.contains z = false) (ha : l.contains a = true) : z ≠ a := fun e => by rw [e, ha] at h; cases h
theorem foldl_range_succ {α : Type} (f : α → Nat → α) (a : α) (j : Nat) : (List.range (j + 1)).foldl f a = f ((List.range j).foldl f a) j := by
  rw [List.range_succ, List.foldl_append]; rfl
section
variable {B : Nat} {vs : List Value} {xs ys : List Str} {now one two : Str} {i j : Nat} {b : Bool}
theorem any_mem {xs : List Str} {c : Str} : (xs.any fun x => x == c) = true ↔ c ∈ xs := by
  rw [List.any_eq_true]
  constructor
  · rintro ⟨x, hx, e⟩; rw [← eq_of_beq e]; exact hx
  · intro h; exact ⟨c, h, beq_self_eq_true c⟩
theorem inv_no (h : FInv B vs xs) (e : xs = (List.range j).foldl (stepJ now one two i) ys) (f : FitIs b now one two (0 + (i : Int)) (0 + (i : Int) + 3 + (j : Int))) (hb : b = false) :
    FInv (B + 1) vs xs ∧ xs = (List.range (j + 1)).foldl (stepJ now one two i) ys := by
  refine ⟨h.up (Nat.le_succ _), ?_⟩
  have f : b = fits now one two (0 + (i : Int)) (0 + (i : Int) + 3 + (j : Int)) := f
  rw [foldl_range_succ, ← e, stepJ, ← f, hb]; rfl
theorem inv_in (h : FInv B vs xs) (e : xs = (List.range j).foldl (stepJ now one two i) ys) (f : FitIs b now one two (0 + (i : Int)) (0 + (i : Int) + 3 + (j : Int))) (hb : b = true)
    (hc : (xs.any fun x => x == chg now one two (0 + (i : Int)) (0 + (i : Int) + 3 + (j : Int))) = true) :
    FInv (B + 1) vs xs ∧ xs = (List.range (j + 1)).foldl (stepJ now one two i) ys := by
  refine ⟨h.up (Nat.le_succ _), ?_⟩
  have f : b = fits now one two (0 + (i : Int)) (0 + (i : Int) + 3 + (j : Int)) := f
  rw [foldl_range_succ, ← e, stepJ, ← f, hb, if_pos rfl, putS, if_pos (any_mem.mp hc)]
theorem inv_new {t : Tok} (h : FInv B vs xs) (e : xs = (List.range j).foldl (stepJ now one two i) ys) (f : FitIs b now one two (0 + (i : Int)) (0 + (i : Int) + 3 + (j : Int))) (hb : b = true)
    (hc : (xs.any fun x => x == chg now one two (0 + (i : Int)) (0 + (i : Int) + 3 + (j : Int))) = false)
    (hg : fits now one two (0 + (i : Int)) (0 + (i : Int) + 3 + (j : Int)) = true → GoodW (chg now one two (0 + (i : Int)) (0 + (i : Int) + 3 + (j : Int)))) :
    FInv (B + 1) (vs ++ [.str (chg now one two (0 + (i : Int)) (0 + (i : Int) + 3 + (j : Int))) t]) (xs ++ [chg now one two (0 + (i : Int)) (0 + (i : Int) + 3 + (j : Int))]) ∧
      (xs ++ [chg now one two (0 + (i : Int)) (0 + (i : Int) + 3 + (j : Int))]) = (List.range (j + 1)).foldl (stepJ now one two i) ys := by
  have f : b = fits now one two (0 + (i : Int)) (0 + (i : Int) + 3 + (j : Int)) := f
  have hn : chg now one two (0 + (i : Int)) (0 + (i : Int) + 3 + (j : Int)) ∉ xs := fun q => by rw [any_mem.mpr q] at hc; cases hc
  have P := h.put t (hg (f ▸ hb)) hn
  rw [putS, if_neg hn] at P
  refine ⟨P, ?_⟩
  rw [foldl_range_succ, ← e, stepJ, ← f, hb, if_pos rfl, putS, if_neg hn]
theorem inv_i {zs : List Str} (_ : FInv B vs xs) (e : xs = (List.range (4 - i)).foldl (stepJ now one two i) zs) (e2 : zs = (List.range i).foldl (stepI now one two) ys) :
    xs = (List.range (i + 1)).foldl (stepI now one two) ys := by
  rw [foldl_range_succ, ← e2, stepI, ← e]
theorem come_end0 {k : Nat} {xs : List Str} : ∀ {n : Nat}, xs[k]? = none → comeW n k xs = xs
  | 0, _ => rfl
  | n + 1, h => by simp only [comeW, h]
theorem come_turn {k n : Nat} {xs : List Str} {now : Str} (h : xs[k]? = some now) : comeW (n + 1) k xs = comeW n (k + 1) (turnW now (Str.ofString "ba") (Str.ofString "ab") (turnW now (Str.ofString "ab") (Str.ofString "ba") xs)) := by
  simp only [comeW, h]
end
end Mine
namespace Mine
theorem ho_new {pre post : List (Addr × Obj)} {D I : Addr} {o o' : Obj} (h : ∀ p ∈ pre ++ (D, o) :: post, p.1 ≠ I) : ∀ p ∈ pre ++ (D, o') :: post, p.1 ≠ I := by
  intro p hp
  rcases List.mem_append.mp hp with hp | hp
  · exact h p (List.mem_append.mpr (.inl hp))
  · rcases List.mem_cons.mp hp with rfl | hp
    · exact h (D, o) (List.mem_append.mpr (.inr (.head _)))
    · exact h p (List.mem_append.mpr (.inr (.tail _ hp)))
end Mine
-- part Kc1
namespace Mine
section
theorem off_Kc1 : True := by w_top off; trivial
local macro_rules | `(tactic| walk_at "zq") => `(tactic| skip)
local macro_rules | `(tactic| walk_at "zq") => `(tactic| skip)
local macro_rules | `(tactic| walk_at "zq") => `(tactic| skip)
local macro_rules | `(tactic| walk_at "zq") => `(tactic| skip)
local macro_rules | `(tactic| walk_at "zq") => `(tactic| skip)
local macro_rules | `(tactic| walk_at "zq") => `(tactic| skip)
local macro_rules | `(tactic| walk_at "zq") => `(tactic| skip)
local macro_rules | `(tactic| walk_at "zq") => `(tactic| skip)
local macro_rules | `(tactic| walk_at "zq") => `(tactic| skip)
local macro_rules | `(tactic| walk_at "zq") => `(tactic| skip)
local macro_rules | `(tactic| walk_at "zq") => `(tactic| skip)
local macro_rules | `(tactic| walk_at "zq") => `(tactic| skip)
local macro_rules | `(tactic| walk_at "zq") => `(tactic| skip)
local macro_rules | `(tactic| walk_at "zq") => `(tactic| skip)
local macro_rules | `(tactic| walk_at "zq") => `(tactic| skip)
local macro_rules | `(tactic| walk_at "zq") => `(tactic| skip)
local macro_rules | `(tactic| walk_at "zq") => `(tactic| skip)
local macro_rules | `(tactic| walk_at "zq") => `(tactic| skip)
local macro_rules | `(tactic| walk_at "zq") => `(tactic| skip)
local macro_rules | `(tactic| walk_at "zq") => `(tactic| skip)
local macro_rules | `(tactic| walk_at "zq") => `(tactic| skip)
local macro_rules | `(tactic| walk_at "zq") => `(tactic| skip)
local macro_rules | `(tactic| walk_at "zq") => `(tactic| skip)
local macro_rules | `(tactic| walk_at "zq") => `(tactic| skip)
local macro_rules | `(tactic| walk_at "zq") => `(tactic| skip)
local macro_rules | `(tactic| walk_at "zq") => `(tactic| skip)
local macro_rules | `(tactic| walk_at "zq") => `(tactic| skip)
local macro_rules | `(tactic| walk_at "zq") => `(tactic| skip)
local macro_rules | `(tactic| walk_at "zq") => `(tactic| skip)
local macro_rules | `(tactic| walk_at "zq") => `(tactic| skip)
local macro_rules | `(tactic| walk_at "zq") => `(tactic| skip)
local macro_rules | `(tactic| walk_at "zq") => `(tactic| skip)
local macro_rules | `(tactic| walk_at "zq") => `(tactic| skip)
local macro_rules | `(tactic| walk_at "zq") => `(tactic| skip)
local macro_rules | `(tactic| walk_at "zq") => `(tactic| skip)
local macro_rules | `(tactic| walk_at "zq") => `(tactic| skip)
local macro_rules | `(tactic| walk_at "zq") => `(tactic| skip)
local macro_rules | `(tactic| walk_at "zq") => `(tactic| skip)
local macro_rules | `(tactic| walk_at "zq") => `(tactic| skip)
local macro_rules | `(tactic| walk_at "zq") => `(tactic| skip)
local macro_rules | `(tactic| walk_at "zq") => `(tactic| skip)
local macro_rules | `(tactic| walk_at "zq") => `(tactic| skip)
local macro_rules | `(tactic| walk_at "zq") => `(tactic| skip)
local macro_rules | `(tactic| walk_at "zq") => `(tactic| skip)
local macro_rules | `(tactic| walk_at "zq") => `(tactic| skip)
local macro_rules | `(tactic| walk_at "zq") => `(tactic| skip)
local macro_rules | `(tactic| walk_at "zq") => `(tactic| skip)
local macro_rules | `(tactic| walk_at "zq") => `(tactic| skip)
local macro_rules | `(tactic| walk_at "zq") => `(tactic| skip)
local macro_rules | `(tactic| walk_at "zq") => `(tactic| skip)
local macro_rules | `(tactic| walk_at "zq") => `(tactic| skip)
local macro_rules | `(tactic| walk_at "zq") => `(tactic| skip)
local macro_rules | `(tactic| walk_at "zq") => `(tactic| skip)
local macro_rules | `(tactic| walk_at "zq") => `(tactic| skip)
local macro_rules | `(tactic| walk_at "zq") => `(tactic| skip)
local macro_rules | `(tactic| walk_at "zq") => `(tactic| skip)
local macro_rules | `(tactic| walk_at "zq") => `(tactic| skip)
local macro_rules | `(tactic| walk_at "zq") => `(tactic| skip)
local macro_rules | `(tactic| walk_at "zq") => `(tactic| skip)
local macro_rules | `(tactic| walk_at "zq") => `(tactic| skip)
local macro_rules | `(tactic| walk_at "zq") => `(tactic| skip)
local macro_rules | `(tactic| walk_at "zq") => `(tactic| skip)
local macro_rules | `(tactic| walk_at "zq") => `(tactic| skip)
local macro_rules | `(tactic| walk_at "zq") => `(tactic| skip)
local macro_rules | `(tactic| walk_at "zq") => `(tactic| skip)
local macro_rules | `(tactic| walk_at "zq") => `(tactic| skip)
local macro_rules | `(tactic| walk_at "zq") => `(tactic| skip)
local macro_rules | `(tactic| walk_at "zq") => `(tactic| skip)
local macro_rules | `(tactic| walk_at "zq") => `(tactic| skip)
local macro_rules | `(tactic| walk_at "zq") => `(tactic| skip)
local macro_rules | `(tactic| walk_at "zq") => `(tactic| skip)
local macro_rules | `(tactic| walk_at "zq") => `(tactic| skip)
local macro_rules | `(tactic| walk_at "zq") => `(tactic| skip)
local macro_rules | `(tactic| walk_at "zq") => `(tactic| skip)
local macro_rules | `(tactic| walk_at "zq") => `(tactic| skip)
local macro_rules | `(tactic| walk_at "zq") => `(tactic| skip)
local macro_rules | `(tactic| walk_at "zq") => `(tactic| skip)
local macro_rules | `(tactic| walk_at "zq") => `(tactic| skip)
local macro_rules | `(tactic| walk_at "zq") => `(tactic| skip)
local macro_rules | `(tactic| walk_at "zq") => `(tactic| skip)
local macro_rules | `(tactic| walk_at "zq") => `(tactic| skip)
local macro_rules | `(tactic| walk_at "zq") => `(tactic| skip)
local macro_rules | `(tactic| walk_at "zq") => `(tactic| skip)
local macro_rules | `(tactic| walk_at "zq") => `(tactic| skip)
local macro_rules | `(tactic| walk_at "zq") => `(tactic| skip)
local macro_rules | `(tactic| walk_at "zq") => `(tactic| skip)
local macro_rules | `(tactic| walk_at "zq") => `(tactic| skip)
local macro_rules | `(tactic| walk_at "zq") => `(tactic| skip)
local macro_rules | `(tactic| walk_at "zq") => `(tactic| skip)
local macro_rules | `(tactic| walk_at "zq") => `(tactic| skip)
local macro_rules | `(tactic| walk_at "zq") => `(tactic| skip)
local macro_rules | `(tactic| walk_at "zq") => `(tactic| skip)
local macro_rules | `(tactic| walk_at "zq") => `(tactic| skip)
local macro_rules | `(tactic| walk_at "zq") => `(tactic| skip)
local macro_rules | `(tactic| walk_at "zq") => `(tactic| skip)
local macro_rules | `(tactic| walk_at "zq") => `(tactic| skip)
local macro_rules | `(tactic| walk_at "zq") => `(tactic| skip)
local macro_rules | `(tactic| walk_at "zq") => `(tactic| skip)
local macro_rules | `(tactic| walk_at "zq") => `(tactic| skip)
local macro_rules | `(tactic| walk_at "zq") => `(tactic| skip)
local macro_rules | `(tactic| walk_at "EndP") => `(tactic| (refine EndP.intro (Fr.keep (by assumption)) ?_))
local macro_rules | `(tactic| walk_at "p_enter") => `(tactic| (
  unfold Pure1
  k_fill
  intro gd env outer A₀ base h₀ L m s mean mg mb B F X T hf hk
  refine' pure_enter B F X T ?kA hf hk ?k6 ?k7 ?k8 ?k9 ?kB ?_ ?c2 ?c3 ?c4 ?c5; (case kA => exact rfl);  (case k6 => k_is); (case k7 => k_is); (case k8 => exact Nat.le_of_ble_eq_true rfl); (case k9 => exact BindsTo.of_eq rfl); (case c5 => decide); (case kB => exact locs rfl); (case c2 => exact rfl); (case c3 => exact rfl); (case c4 => exact rfl); 
  clear hf hk F X T B; intro L' h' F' N' B' X' T'; (try dsimp only); (try k_fold)))
local macro_rules | `(tactic| walk_at "p_enterT") => `(tactic| (
  unfold PureT1
  k_fill
  intro gd env outer A₀ base h₀ L m s mean mg mb tT B F X T hf hk
  refine' pure_enterT tT B F X T ?kA hf hk ?k6 ?k7 ?k8 ?k9 ?kB ?_ ?c2 ?c3 ?c4 ?c5; (case kA => exact rfl);  (case k6 => k_is); (case k7 => k_is); (case k8 => exact Nat.le_of_ble_eq_true rfl); (case k9 => exact BindsTo.of_eq rfl); (case c5 => decide); (case kB => exact locs rfl); (case c2 => exact rfl); (case c3 => exact rfl); (case c4 => exact rfl); 
  clear hf hk F X T B tT; intro L' h' tk0 tT F' N' B' X' T'; (try dsimp only); (try k_fold)))
local macro_rules | `(tactic| k_steps) => `(tactic| repeat' ((fail_if_success (with_reducible refine Hold.go ?_)); (fail_if_success (with_reducible refine TurnEnd.mk ?_)); (fail_if_success (with_reducible refine WTurn.mk ?_)); (first | (k_unfold; (try dsimp only)) | (k_end; wrow_close) | walk1 | (dsimp only; walk1) | (leave1; walk_say "STEP leave1"; (try dsimp only)) | fail "no step")))
def ComeRes (xs : List Str) (h : Heap) (v : Value) (h' : Heap) : Prop := ∃ D vs e ss, v = .ref D ∧ MadeN h h' [(D, W.listOf vs.toArray e)] ∧ StrsAre vs ss ∧ ss.Perm xs ∧ sortedS ss = true
theorem range_small {i : Nat} (h : i < 4) : Builtin.Range.small (0 + (i : Int) + 3) 7 1 = true := by
  match i, h with
  | 0, _ => decide
  | 1, _ => decide
  | 2, _ => decide
  | 3, _ => decide
theorem range_size {i : Nat} (h : i < 4) : Builtin.Range.rangeSize (0 + (i : Int) + 3) 7 1 = ((4 - i : Nat) : Int) := by
  match i, h with
  | 0, _ => decide
  | 1, _ => decide
  | 2, _ => decide
  | 3, _ => decide
structure FS where
  xs : List Str
  vs : List Value
  cap : Nat
structure CS where
  xs : List Str
  vs : List Value
  cap : Nat
  k : Nat
  tk : Tok
structure CInv (word : Str) (n : Nat) (c : CS) : Prop where
  e1 : c.k + n = 20
  e2 : FInv (1 + 32 * c.k) c.vs c.xs
  e5 : comeW n c.k c.xs = comeW 20 0 [word]
theorem now_size {x : Str} (h : GoodW x) : x.length ≤ sizeLine := Nat.le_trans (Nat.le_of_eq h.1) (by decide)
local macro_rules | `(tactic| walk_at "call builtin:sorted") => `(tactic| (k_here; refine Hold.stop ?_))
local macro_rules | `(tactic| walk_at "exec While BoolOp") => `(tactic| (k_here; refine Hold.stop ?_))
local macro_rules | `(tactic| walk_at "exec While") => `(tactic| (k_here; refine Hold.stop ?_))
local macro_rules | `(tactic| walk_at "pyIter ref") => `(tactic| ((with_reducible show wpAny _ _ (pyIter (Value.ref _)) (fun it s₂ => LoopAtV _ _ _ _ _ _ _ _ _ it s₂) _ _); k_here; refine Hold.stop ?_))
local macro_rules | `(tactic| walk_at "call type:range") => `(tactic| (k_here; (rename Fr _ _ _ _ => F'); (rename News _ _ _ _ => N'); (first | (with_unfolding_all refine range1_rows F' N' ?_; intro _ _ _ _ _ _ _ _ _) | (with_unfolding_all refine range2_rows F' N' ?_; intro _ _ _ _ _ _ _ _ _))))
local macro_rules | `(tactic| walk_at "exec For Name Call cons nil") => `(tactic| (k_here; (rename Fr _ _ _ _ => lF'); (with_unfolding_all refine' For_invVF lF' ?k1 ?k2 ?_; (case k1 => exact rfl); (case k2 => exact rfl); k_whole)))
local macro_rules | `(tactic| walk_at "subscriptTail Name Slice str ref") => `(tactic| ((with_reducible show wpAny _ _ (subscriptTail _ (Expr.Slice none (some _) none _) _ _) _ _ _); (with_reducible rename Fr _ _ _ _ => F'); (with_reducible rename News _ _ _ _ => N'); (refine slice_strN_ns_len (hsz := now_size (by assumption)) (s := ⟨_, _, _, _, _⟩) F' N' ?_); intro _ _ _ _ _ _))
local macro_rules | `(tactic| walk_at "subscriptTail Name Slice str ref") => `(tactic| ((with_reducible show wpAny _ _ (subscriptTail _ (Expr.Slice (some _) none none _) _ _) _ _ _); (with_reducible rename Fr _ _ _ _ => F'); (with_reducible rename News _ _ _ _ => N'); (refine slice_strN_sn_len (hsz := now_size (by assumption)) (s := ⟨_, _, _, _, _⟩) F' N' ?_); intro _ _ _ _ _ _))
local macro_rules | `(tactic| walk_at "subscriptTail Name Slice str ref") => `(tactic| ((with_reducible show wpAny _ _ (subscriptTail _ (Expr.Slice (some _) (some _) none _) _ _) _ _ _); (with_reducible rename Fr _ _ _ _ => F'); (with_reducible rename News _ _ _ _ => N'); (refine slice_strN_ss_len (hsz := now_size (by assumption)) (s := ⟨_, _, _, _, _⟩) F' N' ?_); intro _ _ _ _ _ _))
local macro_rules | `(tactic| walk_at "binaryOp Add str str") => `(tactic| (k_here; (with_reducible show wpAny _ _ (binaryOp Operator.Add (Value.str _ _) (Value.str _ _)) _ _ _); (refine add_T (fun _ _ _ => ?_) (by omega))))
local macro_rules | `(tactic| walk_at "call ref") => `(tactic| (k_here; k_dflt (refine' pure_use (ell2 _ _ _ _ _ _ _ _ ?hsp ?hocc ?hP ?hS ?z1) ?B ?F ?X ?T ?N ?h1 ?h2 ?hf ?hk ?hd ?hu ?_; (case hsp => with_reducible assumption); (case hocc => with_reducible assumption); (case hP => with_reducible assumption); (case hS => with_reducible assumption); (case z1 => with_reducible assumption); (case B => k_asm); (case F => k_asm); (case X => k_asm); (case T => k_asm); (case N => k_asm); (case h1 => rfl); (case h2 => rfl); (case hf => rfl); (case hk => rfl); (case hd => exact Nat.le_of_ble_eq_true rfl); (case hu => exact Nat.le_of_ble_eq_true rfl)); intro v' h' tk' F' N' st' R'; obtain ⟨b', e', f'⟩ := IsFit.out R'; clear R'; subst e'))
local macro_rules | `(tactic| walk_at "call builtin:list.append") => `(tactic| (k_here; k_dflt (refine' append_V ?F ?N ?U ?z ?_; (case F => k_asm); (case N => k_asm); (case U => k_upd); (case z => ((have sl9 := StrsAre.length (by with_reducible assumption)); omega))); intro h' F' N'))
theorem come (w : World) (word : Str) (t1 : Tok) (hg : GoodW word) (hz0 : (comeW 20 0 [word]).length < 64) :
    Pure1 w 550 5500 147 [.str word t1] (ComeRes (comeW 20 0 [word])) := by
  have hab : (Str.ofString "ab").length = 2 := by decide
  have hba : (Str.ofString "ba").length = 2 := by decide
  have hdd : (Str.ofString "...").length = 3 := by decide
  walk_at "p_enter"
  k_steps
  (rename News _ _ _ _ => N1)
  (rename Fr _ _ _ _ => F1)
  refine Hold.go ?_
  refine' while_st (σ := CS) (Str.ofString "?") (fun c => [((lstOf N1).1, W.listOf c.vs.toArray c.cap)]) (fun c => [(Str.ofString "k", .int c.k c.tk)]) [Str.ofString "now", Str.ofString "one", Str.ofString "two", Str.ofString "i", Str.ofString "j", Str.ofString "changed"]
    (CInv word) ⟨[word], _, _, 0, _⟩ 20 F1 N1 ?hk ?hi ?turn
  case hk =>
    intro p hp
    simp only [List.mem_cons, List.mem_nil_iff, or_false] at hp
    rcases hp with rfl; rfl
  case hi =>
    refine ⟨rfl, ⟨.cons _ _ .nil, ?_, Nat.le_refl 1⟩, rfl⟩
    intro x hx
    rw [List.mem_singleton.mp hx]; exact hg
  case turn =>
    intro n c u h tk hj F2 N2
    dsimp only [kstB] at F2 N2
    obtain ⟨e1, ⟨e2, e3, e4⟩, e5⟩ := hj
    show wpAny _ _ _ _ _ _
    (try k_fold)
    k_steps
    (rename News _ _ _ _ => N3)
    (rename Fr _ _ _ _ => F3)
    have hkx : (c.k : Nat) < c.xs.length := by omega
    have hnow : c.xs[c.k]? = some (c.xs.getD ((c.k : Int)).toNat Str.empty) := by
      rw [List.getD_eq_getElem?_getD, Int.toNat_natCast, List.getElem?_eq_getElem hkx]; rfl
    have hgn : GoodW (c.xs.getD ((c.k : Int)).toNat Str.empty) := e3 _ (List.mem_of_getElem? hnow)
    generalize c.xs.getD ((c.k : Int)).toNat Str.empty = now at F3 hnow hgn
    have hnl : now.length = 6 := hgn.1
    refine Hold.go ?_
    refine' iter_range (σ := FS) (fun d => front4 N3 ++ [((lstOf N1).1, W.listOf d.vs.toArray d.cap)]) (fun _ => []) [Str.ofString "j", Str.ofString "changed"]
      (fun i d => FInv (c.xs.length + 0 + 4 * i) d.vs d.xs ∧ d.xs = (List.range i).foldl (stepI now (Str.ofString "ab") (Str.ofString "ba")) c.xs) ⟨c.xs, c.vs, c.cap⟩ rfl (by assumption) (by decide) (n := 4) (by decide) F3 N3 (fun _ hp => nomatch hp) ?hia ?turna ?donea
    case hia => exact ⟨⟨by assumption, e3, Nat.le_refl _⟩, rfl⟩
    case turna =>
      intro i t d u h tk own I oI hi ho hm hI ho2 F4 N4
      obtain ⟨g1, g2⟩ := ho
      dsimp only [kstB, front4] at F4 N4
      simp only [List.cons_append, List.nil_append] at N4
      show wpAny _ _ _ _ _ _
      (try k_fold)
      k_steps
      (rename News _ _ _ _ => N5)
      (rename Fr _ _ _ _ => F5)
      refine Hold.go ?_
      refine' iter_range (σ := FS) (fun e => front4 N5 ++ ((lstOf N1).1, W.listOf e.vs.toArray e.cap) :: back5 N5) (fun _ => []) [Str.ofString "changed"]
        (fun j e => FInv (c.xs.length + 0 + 4 * i + j) e.vs e.xs ∧ e.xs = (List.range j).foldl (stepJ now (Str.ofString "ab") (Str.ofString "ba") i) d.xs) ⟨d.xs, d.vs, d.cap⟩ rfl (by assumption) (range_small hi) (n := 4 - i) (range_size hi) F5 N5 (fun _ hp => nomatch hp) ?hib ?turnb ?doneb
      case hib => exact ⟨g1.up (by omega), rfl⟩
      case turnb =>
        intro j t e u h tk own2 I2 oI2 hj ho hm' hI' ho2' F6 N6
        obtain ⟨⟨q1, q2, q3⟩, q4⟩ := ho
        obtain ⟨cf1, cf2, cf3⟩ := come_facts (.inl ⟨rfl, rfl⟩) hgn hi hj
        dsimp only [wantS] at cf1 cf2
        have hoD : OwnOff (own ++ own2) [(lstOf N1).1] := by
          intro p hp b hb
          rw [List.mem_singleton.mp hb]
          rcases List.mem_append.mp hp with hp | hp
          · rw [ho2 p hp]; exact Ne.symm (hm ((lstOf N1).1, W.listOf d.vs.toArray d.cap) (List.mem_append.mpr (.inr (.head _))))
          · rw [ho2' p hp]; exact Ne.symm (hm' ((lstOf N1).1, W.listOf e.vs.toArray e.cap) (List.mem_append.mpr (.inr (.head _))))
        have hz1 : e.xs.length ≤ 2000 := by omega
        dsimp only [lstOf] at hoD
        dsimp only [kstB, front4, back5] at F6 N6
        simp only [List.cons_append, List.nil_append] at N6
        show wpAny _ _ _ _ _ _
        (try k_fold)
        k_steps
        all_goals ((rename Fr _ _ _ _ => F9); (rename News _ _ _ _ => N9); (rename FitIs _ _ _ _ _ _ => f9))
        all_goals first
          | (refine' TurnEnd.go ⟨e.xs, e.vs, e.cap⟩ F9 N9 hm' (fun _ hp => nomatch hp) ?_ (inv_no ⟨q1, q2, q3⟩ q4 f9 (by with_reducible assumption)))
          | ((rename (List.any _ _ = true) => a9); (refine' TurnEnd.go ⟨e.xs, e.vs, e.cap⟩ F9 N9 hm' (fun _ hp => nomatch hp) ?_ (inv_in ⟨q1, q2, q3⟩ q4 f9 (by with_reducible assumption) a9)))
          | ((rename (List.any _ _ = false) => a9); (refine' TurnEnd.go ⟨_, _, e.cap + 1⟩ F9 N9 (ho_new hm') (fun _ hp => nomatch hp) ?_ (inv_new ⟨q1, q2, q3⟩ q4 f9 (by with_reducible assumption) a9 cf3)))
        all_goals (intro z hz1 hz2 hz3; (have hq1 : z ≠ Str.ofString "changed" := ncont hz3 (by decide)); simp only [if_neg hz1, if_neg hq1, hz3, Bool.false_eq_true, if_false])
      case doneb =>
        intro e u2 h2 tk2 hj F7 N7
        obtain ⟨q1, q2⟩ := hj
        dsimp only [kstB, front4, back5] at F7 N7
        simp only [List.cons_append, List.nil_append] at N7
        show wpAny _ _ _ _ _ _
        (try k_fold)
        k_steps
        (rename Fr _ _ _ _ => F9); (rename News _ _ _ _ => N9)
        refine' TurnEnd.go ⟨e.xs, e.vs, e.cap⟩ F9 N9 (ho_new hm) (fun _ hp => nomatch hp) ?_ ⟨q1.up (by omega), inv_i q1 q2 g2⟩
        intro z hz1 hz2 hz3
        have hq1 : z ≠ Str.ofString "changed" := ncont hz3 (by decide)
        have hq2 : z ≠ Str.ofString "j" := ncont hz3 (by decide)
        have hq3 : [Str.ofString "changed"].contains z = false := by
          cases hc : [Str.ofString "changed"].contains z with
          | false => rfl
          | true => exact absurd (by simpa using hc) hq1
        simp only [if_neg hz1, if_neg hq2, hz3, hq3, Bool.false_eq_true, if_false]
    case donea => 
      intro d0 u3 h3 tk3 hj F8 N8
      obtain ⟨r1, r2⟩ := hj
      dsimp only [kstB, front4] at F8 N8
      simp only [List.cons_append, List.nil_append] at N8
      show wpAny _ _ _ _ _ _
      (try k_fold)
      k_steps
      (rename News _ _ _ _ => Nb3)
      (rename Fr _ _ _ _ => Fb3)

      refine Hold.go ?_
      refine' iter_range (σ := FS) (fun d => front4 Nb3 ++ [((lstOf N1).1, W.listOf d.vs.toArray d.cap)]) (fun _ => []) [Str.ofString "j", Str.ofString "changed"]
        (fun i d => FInv (c.xs.length + 16 + 4 * i) d.vs d.xs ∧ d.xs = (List.range i).foldl (stepI now (Str.ofString "ba") (Str.ofString "ab")) d0.xs) ⟨d0.xs, d0.vs, d0.cap⟩ rfl (by assumption) (by decide) (n := 4) (by decide) Fb3 Nb3 (fun _ hp => nomatch hp) ?hiab ?turnab ?doneab
      case hiab => exact ⟨r1.up (by omega), rfl⟩
      case turnab =>
        intro i t d u h tk own I oI hi ho hm hI ho2 F4 N4
        obtain ⟨g1, g2⟩ := ho
        dsimp only [kstB, front4] at F4 N4
        simp only [List.cons_append, List.nil_append] at N4
        show wpAny _ _ _ _ _ _
        (try k_fold)
        k_steps
        (rename News _ _ _ _ => N5)
        (rename Fr _ _ _ _ => F5)
        refine Hold.go ?_
        refine' iter_range (σ := FS) (fun e => front4 N5 ++ ((lstOf N1).1, W.listOf e.vs.toArray e.cap) :: back5 N5) (fun _ => []) [Str.ofString "changed"]
          (fun j e => FInv (c.xs.length + 16 + 4 * i + j) e.vs e.xs ∧ e.xs = (List.range j).foldl (stepJ now (Str.ofString "ba") (Str.ofString "ab") i) d.xs) ⟨d.xs, d.vs, d.cap⟩ rfl (by assumption) (range_small hi) (n := 4 - i) (range_size hi) F5 N5 (fun _ hp => nomatch hp) ?hibb ?turnbb ?donebb
        case hibb => exact ⟨g1.up (by omega), rfl⟩
        case turnbb =>
          intro j t e u h tk own2 I2 oI2 hj ho hm' hI' ho2' F6 N6
          obtain ⟨⟨q1, q2, q3⟩, q4⟩ := ho
          obtain ⟨cf1, cf2, cf3⟩ := come_facts (.inr ⟨rfl, rfl⟩) hgn hi hj
          dsimp only [wantS] at cf1 cf2
          have hoD : OwnOff (own ++ own2) [(lstOf N1).1] := by
            intro p hp b hb
            rw [List.mem_singleton.mp hb]
            rcases List.mem_append.mp hp with hp | hp
            · rw [ho2 p hp]; exact Ne.symm (hm ((lstOf N1).1, W.listOf d.vs.toArray d.cap) (List.mem_append.mpr (.inr (.head _))))
            · rw [ho2' p hp]; exact Ne.symm (hm' ((lstOf N1).1, W.listOf e.vs.toArray e.cap) (List.mem_append.mpr (.inr (.head _))))
          have hz1 : e.xs.length ≤ 2000 := by omega
          dsimp only [lstOf] at hoD
          dsimp only [kstB, front4, back5] at F6 N6
          simp only [List.cons_append, List.nil_append] at N6
          show wpAny _ _ _ _ _ _
          (try k_fold)
          k_steps
          all_goals ((rename Fr _ _ _ _ => F9); (rename News _ _ _ _ => N9); (rename FitIs _ _ _ _ _ _ => f9))
          all_goals first
            | (refine' TurnEnd.go ⟨e.xs, e.vs, e.cap⟩ F9 N9 hm' (fun _ hp => nomatch hp) ?_ (inv_no ⟨q1, q2, q3⟩ q4 f9 (by with_reducible assumption)))
            | ((rename (List.any _ _ = true) => a9); (refine' TurnEnd.go ⟨e.xs, e.vs, e.cap⟩ F9 N9 hm' (fun _ hp => nomatch hp) ?_ (inv_in ⟨q1, q2, q3⟩ q4 f9 (by with_reducible assumption) a9)))
            | ((rename (List.any _ _ = false) => a9); (refine' TurnEnd.go ⟨_, _, e.cap + 1⟩ F9 N9 (ho_new hm') (fun _ hp => nomatch hp) ?_ (inv_new ⟨q1, q2, q3⟩ q4 f9 (by with_reducible assumption) a9 cf3)))
          all_goals (intro z hz1 hz2 hz3; (have hq1 : z ≠ Str.ofString "changed" := ncont hz3 (by decide)); simp only [if_neg hz1, if_neg hq1, hz3, Bool.false_eq_true, if_false])
        case donebb =>
          intro e u2 h2 tk2 hj F7 N7
          obtain ⟨q1, q2⟩ := hj
          dsimp only [kstB, front4, back5] at F7 N7
          simp only [List.cons_append, List.nil_append] at N7
          show wpAny _ _ _ _ _ _
          (try k_fold)
          k_steps
          (rename Fr _ _ _ _ => F9); (rename News _ _ _ _ => N9)
          refine' TurnEnd.go ⟨e.xs, e.vs, e.cap⟩ F9 N9 (ho_new hm) (fun _ hp => nomatch hp) ?_ ⟨q1.up (by omega), inv_i q1 q2 g2⟩
          intro z hz1 hz2 hz3
          have hq1 : z ≠ Str.ofString "changed" := ncont hz3 (by decide)
          have hq2 : z ≠ Str.ofString "j" := ncont hz3 (by decide)
          have hq3 : [Str.ofString "changed"].contains z = false := by
            cases hc : [Str.ofString "changed"].contains z with
            | false => rfl
            | true => exact absurd (by simpa using hc) hq1
          simp only [if_neg hz1, if_neg hq2, hz3, hq3, Bool.false_eq_true, if_false]
      case doneab => 
        intro d2 u4 h4 tk4 hj2 Fb8 Nb8
        obtain ⟨rb1, rb2⟩ := hj2
        dsimp only [kstB, front4] at Fb8 Nb8
        simp only [List.cons_append, List.nil_append] at Nb8
        show wpAny _ _ _ _ _ _
        (try k_fold)
        k_steps
        (rename Fr _ _ _ _ => F9)
        (rename News _ _ _ _ => N9)
        have hn1 : n = (n - 1) + 1 := by omega
        refine' WTurn.go (n' := n - 1) ⟨d2.xs, d2.vs, d2.cap, c.k + 1, _⟩ (by omega) F9 (news_sub N9 (.cons _ (.cons _ (.cons _ (.refl _))))) ?_ ?_ ⟨by dsimp only; omega, rb1.up (by dsimp only; omega), ?_⟩
        rotate_left
        · intro p hp
          simp only [List.mem_cons, List.mem_nil_iff, or_false] at hp
          rcases hp with rfl; rfl
        · intro z hz1 hz2 hz3
          have hk1 : z ≠ Str.ofString "k" := hz2 (Str.ofString "k", _) (.head _)
          have hb1 : (z == Str.ofString "changed") = false := beq_eq_false_iff_ne.mpr (ncont hz3 (by decide))
          have hb2 : (z == Str.ofString "j") = false := beq_eq_false_iff_ne.mpr (ncont hz3 (by decide))
          have hq1 : z ≠ Str.ofString "one" := ncont hz3 (by decide)
          have hq2 : z ≠ Str.ofString "two" := ncont hz3 (by decide)
          have hq3 : z ≠ Str.ofString "i" := ncont hz3 (by decide)
          have hq4 : z ≠ Str.ofString "now" := ncont hz3 (by decide)
          have hc1 : [Str.ofString "j", Str.ofString "changed"].contains z = false := by simp only [List.contains_cons, List.contains_nil, hb1, hb2, Bool.or_false]
          simp only [if_neg hz1, if_neg hk1, if_neg hq1, if_neg hq2, if_neg hq3, if_neg hq4, hz3, hc1, Bool.false_eq_true, if_false]
        · rw [hn1, come_turn hnow] at e5
          rw [← e5]
          show comeW (n - 1) (c.k + 1) d2.xs = _
          rw [rb2, r2]; rfl

    all_goals
      refine Hold.go ?_
      (rename Fr _ _ _ _ => F9)
      (rename News _ _ _ _ => N9)
      have hfin : c.xs = comeW 20 0 [word] := by
        first
        | exact (come_end0 (List.getElem?_eq_none_iff.mpr (by omega))).symm.trans e5
        | (obtain rfl : n = 0 := by omega
           exact e5)
      have hS9 : StrsAre c.vs c.xs := by with_reducible assumption
      refine sorted_V F9 N9 (by k_mem) hS9 (by rw [hfin]; exact hz0) ?_
      intro h9 D9 vs9 ss9 e9 F9 N9 l9 S9 P9 O9
      k_steps
      exact ⟨_, _, _, _, rfl, MadeN.of N9 (.cons_cons _ (List.nil_sublist _)), S9, hfin ▸ P9, O9⟩
end
end Mine
-- part Rules4
namespace Mine
section
variable {prog : Program} {w : World} {A : Around} {E : Value → Shared → Prop} {s : Shared} {h₀ : Heap} {L D : Addr} {m : Str → Option Value} {news news' : List (Addr × Obj)} {Q : Value → Shared → Prop}
theorem slice_T {value slice : Expr} {l : Addr} {items : Array Value} {vl vu : Value} {lo hi : Option Int}
    (F : Fr h₀ L s.heap m) (N : News h₀ L s.heap news) (hl : s.heap.IsList l items) (pl : IsPart vl lo) (pu : IsPart vu hi)
    (h : ∀ h', Fr h₀ L h' m → News h₀ L h' ((s.heap.objs.size + 1, { cls := .type "list", data := .seq (slicePick items lo hi none) }) :: news) → Q (.ref (s.heap.objs.size + 1)) { s with heap := h' })
    (hs : subscripted slice false (.ref l) (.ref s.heap.objs.size) = operate [.ref s.heap.objs.size, .ref l] (getItem (.ref l) (.ref s.heap.objs.size)))
    (hsz : items.size ≤ sizeLine) :
    wpAny (model prog w) A (subscriptTail value slice (.ref l) (.ref s.heap.objs.size)) Q E { s with heap := s.heap.push { cls := .type "slice", data := .fields #[vl, vu, .none] } } := by
  refine tail_any (Heap.IsList.typeIs (s := { s with heap := s.heap.push { cls := .type "slice", data := .fields #[vl, vu, .none] } }) (hl.push _)) list_getitem_lookup
    (wpAny_getItem_list_slice (hl.push _) (Heap.IsSliceOf.new ..) pl pu .none (by simp) ?_ hsz) hs
  have N1 := News.push (F.push { cls := .type "slice", data := .fields #[vl, vu, .none] }) (N.grown fun _ _ e => Heap.get?_push_of_some _ e) { cls := .type "list", data := .seq (slicePick items lo hi none) }
  rw [Heap.size_push] at N1
  show Q (.ref (s.heap.push _).objs.size) _
  rw [Heap.size_push]
  exact h _ ((F.push _).push _) N1
theorem slice_from_I {value slice : Expr} {vs : List Value} {ns : List Int} {n : Nat} {x : Int} {u : Tok} (F : Fr h₀ L s.heap m) (N : News h₀ L s.heap news) (hm : (D, W.listOf vs.toArray n) ∈ news) (hi : IntsAre vs ns) (h0 : 0 ≤ x) (hz : ns.length ≤ 100000)
    (h : ∀ h' D' vs', Fr h₀ L h' m → News h₀ L h' ((D', W.listOf vs'.toArray 0) :: news) → IntsAre vs' (ns.drop x.toNat) → (∀ p ∈ news, p.1 < D') → Q (.ref D') { s with heap := h' })
    (hs : subscripted slice false (.ref D) (.ref s.heap.objs.size) = operate [.ref s.heap.objs.size, .ref D] (getItem (.ref D) (.ref s.heap.objs.size)) := by with_unfolding_all rfl) :
    wpAny (model prog w) A (subscriptTail value slice (.ref D) (.ref s.heap.objs.size)) Q E { s with heap := s.heap.push { cls := .type "slice", data := .fields #[.int x u, .none, .none] } } := by
  refine slice_T F N (News.isList N hm) (.int _ _) .none (fun h' F' N' => ?_) hs (by rw [List.size_toArray, hi.length, sizeLine_eq]; omega)
  have e : slicePick vs.toArray (some x) none none = (slicePick vs.toArray (some x) none none).toList.toArray := by simp
  rw [e] at N'
  exact h h' _ _ F' N' (slice_ints_fromW hi h0) fun p hp => Nat.lt_succ_of_lt (Heap.lt_size (N p hp).1)
end
end Mine
-- part Rules5
namespace Mine
section
variable {prog : Program} {w : World} {A : Around} {E : Value → Shared → Prop} {s : Shared} {h₀ : Heap} {L : Addr} {m : Str → Option Value} {env : Env}
theorem wpAny_hold {α : Type} {M : Model} {t : Sem α} {Q : α → Shared → Prop} (h : wpAny M A t (fun a s' => Hold (Q a s')) E s) : wpAny M A t Q E s :=
  wpAny_mono h (fun _ _ z => z.out) fun _ _ e => e
/-- what is asked of a comprehension over a range, where the range stands -/
def RangeC (prog : Program) (w : World) (A : Around) (h₀ : Heap) (L : Addr) (m : Str → Option Value) (env : Env) (elt : Expr) (x : Str) (ifs : List Expr) (scope : Scope) (cl : List (Str × Addr)) (pz : Int → Bool) (d : Int → PyData) (Q : Value → Shared → Prop) (xv : Value) (s₁ : Shared) : Prop :=
  ∃ news : List (Addr × Obj), ∃ r a₀ b₀ c₀ t₀ u₀ v₀, ∃ n : Nat, xv = .ref r ∧ IsRange s₁.heap r a₀ b₀ c₀ t₀ u₀ v₀ ∧ Builtin.Range.small a₀ b₀ c₀ = true ∧ Builtin.Range.rangeSize a₀ b₀ c₀ = (n : Int) ∧ n ≤ sizeLine ∧ Fr h₀ L s₁.heap m ∧ News h₀ L s₁.heap news ∧
      (∀ C a v s₂ m₂ E', s₁.heap.objs.size ≤ C → a ∈ rangeInts a₀ c₀ n → ItemKind.int.is a v → s₂.heap.Ns (compEnvC scope cl C env).locals m₂ → m₂ x = some v → (∀ b o, s₁.heap.get? b = some o → s₂.heap.get? b = some o) →
        wpAny (model prog w) A (forIn ifs true fun c r => if r = true then do let ok ← isTrue c (compEnvC scope cl C env) (eval c (compEnvC scope cl C env)); pure (ForInStep.yield ok) else pure (ForInStep.yield r))
          (fun ok s₃ => ok = pz a ∧ Keeps s₂ s₃) E' s₂) ∧
      (∀ C a v s₂ m₂ E', s₁.heap.objs.size ≤ C → a ∈ rangeInts a₀ c₀ n → ItemKind.int.is a v → pz a = true → s₂.heap.Ns (compEnvC scope cl C env).locals m₂ → m₂ x = some v → (∀ b o, s₁.heap.get? b = some o → s₂.heap.get? b = some o) →
        wpAny (model prog w) A (eval elt (compEnvC scope cl C env)) (fun y s₃ => Carried y (d a) ∧ Keeps s₂ s₃) E' s₂) ∧
      (∀ D (ys : List Value) h' tk, Fr h₀ L h' m → News h₀ L h' news → h₀.get? D = none → h'.IsList D ys.toArray → NewPlain h' news D ys.toArray → CarriedAll ys (((rangeInts a₀ c₀ n).filter pz).map d) → Q (.ref D) { s₁ with heap := h', toks := tk })
theorem comp_range (pz : Int → Bool) (d : Int → PyData) {elt iter : Expr} {x : Str} {px : Pos} {ifs : List Expr} {scope : Scope} {cl : List (Str × Addr)} {pos : Pos} {Q : Value → Shared → Prop} (_ : Fr h₀ L s.heap m)
    (hh : A.handled = none) (hclos : closureFor scope env = pure cl) (hcell : ∀ y ∈ scope.names, y.2 ≠ .cell) (hkind : scope.kind = .function)
    (hnames : ∀ y ∈ scope.names, y.2 = .local → scope.names.lookup y.1 = some .local) (hx : scope.names.lookup x = some .local)
    (hs : ∀ x, foldedSetIterable iter env x = pure x)
    (h : wpAny (model prog w) A (eval iter env) (fun xv s₁ => Hold (RangeC prog w A h₀ L m env elt x ifs scope cl pz d Q xv s₁)) E s) :
    wpAny (model prog w) A (eval (.ListComp elt [⟨.Name x px, iter, ifs, 0⟩] scope pos) env) Q E s :=
  ListComp_DCr hh hclos hcell hkind hnames hx (wpAny_hold h) hs
/-- the same, where the list is given a name -/
def RangeA (prog : Program) (w : World) (A : Around) (h₀ : Heap) (L : Addr) (m : Str → Option Value) (env : Env) (elt : Expr) (x y : Str) (ifs : List Expr) (scope : Scope) (cl : List (Str × Addr)) (pz : Int → Bool) (d : Int → PyData) (Q : Flow → Shared → Prop) (xv : Value) (s₁ : Shared) : Prop :=
  ∃ news : List (Addr × Obj), ∃ r a₀ b₀ c₀ t₀ u₀ v₀, ∃ n : Nat, xv = .ref r ∧ IsRange s₁.heap r a₀ b₀ c₀ t₀ u₀ v₀ ∧ Builtin.Range.small a₀ b₀ c₀ = true ∧ Builtin.Range.rangeSize a₀ b₀ c₀ = (n : Int) ∧ n ≤ sizeLine ∧ Fr h₀ L s₁.heap m ∧ News h₀ L s₁.heap news ∧
      (∀ C a v s₂ m₂ E', s₁.heap.objs.size ≤ C → a ∈ rangeInts a₀ c₀ n → ItemKind.int.is a v → s₂.heap.Ns (compEnvC scope cl C env).locals m₂ → m₂ x = some v → (∀ b o, s₁.heap.get? b = some o → s₂.heap.get? b = some o) →
        wpAny (model prog w) A (forIn ifs true fun c r => if r = true then do let ok ← isTrue c (compEnvC scope cl C env) (eval c (compEnvC scope cl C env)); pure (ForInStep.yield ok) else pure (ForInStep.yield r))
          (fun ok s₃ => ok = pz a ∧ Keeps s₂ s₃) E' s₂) ∧
      (∀ C a v s₂ m₂ E', s₁.heap.objs.size ≤ C → a ∈ rangeInts a₀ c₀ n → ItemKind.int.is a v → pz a = true → s₂.heap.Ns (compEnvC scope cl C env).locals m₂ → m₂ x = some v → (∀ b o, s₁.heap.get? b = some o → s₂.heap.get? b = some o) →
        wpAny (model prog w) A (eval elt (compEnvC scope cl C env)) (fun y s₃ => Carried y (d a) ∧ Keeps s₂ s₃) E' s₂) ∧
      (∀ D (ys : List Value) h' tk, Fr h₀ L h' (fun z => if z = y then some (.ref D) else m z) → News h₀ L h' news → h₀.get? D = none → h'.IsList D ys.toArray → NewPlain h' news D ys.toArray → CarriedAll ys (((rangeInts a₀ c₀ n).filter pz).map d) → Q .next { s₁ with heap := h', toks := tk })
theorem comp_rangeA (pz : Int → Bool) (d : Int → PyData) {elt iter : Expr} {x y : Str} {px py : Pos} {ifs : List Expr} {scope : Scope} {cl : List (Str × Addr)} {pos spos : Pos} {Q : Flow → Shared → Prop} (_ : Fr h₀ L s.heap m)
    (hsw : swapsWith (.ListComp elt [⟨.Name x px, iter, ifs, 0⟩] scope pos) (some (.Name y py)) spos.line env = pure true) (hL : env.locals = L)
    (hh : A.handled = none) (hclos : closureFor scope env = pure cl) (hcell : ∀ z ∈ scope.names, z.2 ≠ .cell) (hkind : scope.kind = .function)
    (hnames : ∀ z ∈ scope.names, z.2 = .local → scope.names.lookup z.1 = some .local) (hx : scope.names.lookup x = some .local)
    (hy : env.kindOf y = some .local) (hp : (env.scope.kind == .class || (env.scope.kind == .module && env.locals != env.globals)) = false)
    (hs : ∀ x, foldedSetIterable iter env x = pure x)
    (h : wpAny (model prog w) A (eval iter env) (fun xv s₁ => Hold (RangeA prog w A h₀ L m env elt x y ifs scope cl pz d Q xv s₁)) E s) :
    wpAny (model prog w) A (exec (.Assign [.Name y py] (.ListComp elt [⟨.Name x px, iter, ifs, 0⟩] scope pos) spos) env) Q E s :=
  Assign_ListComp_DCr hsw hL hh hclos hcell hkind hnames hx hy hp (wpAny_hold h) hs
end
end Mine
namespace Mine
section
variable {prog : Program} {w : World} {A : Around} {E : Value → Shared → Prop} {s : Shared} {h₀ u : Heap} {L : Addr} {m : Str → Option Value} {news : List (Addr × Obj)} {x : Str} {t : Tok} {value slice : Expr} {Q : Value → Shared → Prop}
theorem keptE : PySem.KeptH (fun h => InElt u h ∧ Fr h₀ L h m ∧ News h₀ L h news) := fun h o H => ⟨fun b o' e => Heap.get?_push_of_some _ (H.1 b o' e), (keptFrN h o H.2).1, (keptFrN h o H.2).2⟩
theorem slice_E_ns {j : Int} {uj : Tok} (hE : InElt u s.heap) (hF : Fr h₀ L s.heap m) (hN : News h₀ L s.heap news) (hsz : x.length ≤ 100000)
    (h : ∀ h' t' k, InElt u h' → Fr h₀ L h' m → News h₀ L h' news → (Txt.slice x none (some j)).length ≤ x.length → Q (.str (Txt.slice x none (some j)) t') { s with heap := h', toks := k })
    (hs : subscripted slice false (.str x t) (.ref s.heap.objs.size) = operate [.ref s.heap.objs.size, .str x t] (getItem (.str x t) (.ref s.heap.objs.size)) := by with_unfolding_all rfl)
    (ht : ∀ r, letTemporaryGo value (.str x t) r = pure () := by intro _; with_unfolding_all rfl) :
    wpAny (model prog w) A (subscriptTail value slice (.str x t) (.ref s.heap.objs.size)) Q E { s with heap := s.heap.push { cls := .type "slice", data := .fields #[.none, .int j uj, .none] } } :=
  tail_of_ItemOn (SBH.sliceItem_ns keptE ⟨hE, hF, hN⟩ (fun h' t' k a => h h' t' k a.1 a.2.1 a.2.2 (PyProof.Txt.length_slice_le x _ _)) (by rw [sizeLine_eq]; omega)) hs ht
theorem slice_E_sn {i : Int} {ui : Tok} (hE : InElt u s.heap) (hF : Fr h₀ L s.heap m) (hN : News h₀ L s.heap news) (hsz : x.length ≤ 100000)
    (h : ∀ h' t' k, InElt u h' → Fr h₀ L h' m → News h₀ L h' news → (Txt.slice x (some i) none).length ≤ x.length → Q (.str (Txt.slice x (some i) none) t') { s with heap := h', toks := k })
    (hs : subscripted slice false (.str x t) (.ref s.heap.objs.size) = operate [.ref s.heap.objs.size, .str x t] (getItem (.str x t) (.ref s.heap.objs.size)) := by with_unfolding_all rfl)
    (ht : ∀ r, letTemporaryGo value (.str x t) r = pure () := by intro _; with_unfolding_all rfl) :
    wpAny (model prog w) A (subscriptTail value slice (.str x t) (.ref s.heap.objs.size)) Q E { s with heap := s.heap.push { cls := .type "slice", data := .fields #[.int i ui, .none, .none] } } :=
  tail_of_ItemOn (SBH.sliceItem_sn keptE ⟨hE, hF, hN⟩ (fun h' t' k a => h h' t' k a.1 a.2.1 a.2.2 (PyProof.Txt.length_slice_le x _ _)) (by rw [sizeLine_eq]; omega)) hs ht
theorem slice_E_ss {i j : Int} {ui uj : Tok} (hE : InElt u s.heap) (hF : Fr h₀ L s.heap m) (hN : News h₀ L s.heap news) (hsz : x.length ≤ 100000)
    (h : ∀ h' t' k, InElt u h' → Fr h₀ L h' m → News h₀ L h' news → (Txt.slice x (some i) (some j)).length ≤ x.length → Q (.str (Txt.slice x (some i) (some j)) t') { s with heap := h', toks := k })
    (hs : subscripted slice false (.str x t) (.ref s.heap.objs.size) = operate [.ref s.heap.objs.size, .str x t] (getItem (.str x t) (.ref s.heap.objs.size)) := by with_unfolding_all rfl)
    (ht : ∀ r, letTemporaryGo value (.str x t) r = pure () := by intro _; with_unfolding_all rfl) :
    wpAny (model prog w) A (subscriptTail value slice (.str x t) (.ref s.heap.objs.size)) Q E { s with heap := s.heap.push { cls := .type "slice", data := .fields #[.int i ui, .int j uj, .none] } } :=
  tail_of_ItemOn (SBH.sliceItem_ss keptE ⟨hE, hF, hN⟩ (fun h' t' k a => h h' t' k a.1 a.2.1 a.2.2 (PyProof.Txt.length_slice_le x _ _)) (by rw [sizeLine_eq]; omega)) hs ht
end
end Mine
-- part Rules6
namespace Mine
theorem reads_intsA {h : Heap} : ∀ {vs : List Value} {ns : List Int}, IntsAre vs ns → ReadsAll h vs (ns.map PyData.int) []
  | _, _, .nil => .nil
  | _, _, .cons n t r => .cons (as := []) (.int n t) (reads_intsA r)
theorem reads_norm {h₀ h : Heap} {L T C : Addr} {news : List (Addr × Obj)} {vs : List Value} {ns : List Int} {b : Int} {t : Tok} (N : News h₀ L h news) (m1 : (T, tupObj #[.ref C, .int b t]) ∈ news) (m2 : (C, tupObj vs.toArray) ∈ news) (i : IntsAre vs ns) :
    Reads h (.ref T) (.tuple [.tuple (ns.map PyData.int), .int b]) [] :=
  reads_tuple_at (N _ m1).1 rfl rfl (.cons (as := []) (reads_tuple_at (N _ m2).1 rfl rfl (by simpa using reads_intsA i)) (.cons (as := []) (.int b t) .nil))
theorem shaped_norm (ns : List Int) (b : Int) : SeqAt.shaped (.tuple [.tuple (ns.map PyData.int), .int b]) = true := by
  simp [SeqAt.shaped, PyData.canLay0, PyData.canLayAll0, PyData.depth, PyData.depthAll, ke_canLayAll0, ke_depthAll]
theorem eqv_norm (ns ms : List Int) (b c : Int) : PyData.eqv (.tuple [.tuple (ns.map PyData.int), .int b]) (.tuple [.tuple (ms.map PyData.int), .int c]) = (decide (ns = ms) && decide (b = c)) := by
  simp only [PyData.eqv, PyData.eqvAll, ked_eqvAll, Bool.and_true]
  congr 1
section
variable {prog : Program} {w : World} {A : Around} {E : Value → Shared → Prop} {s : Shared} {h₀ : Heap} {L T1 C1 T2 C2 : Addr} {m : Str → Option Value} {news : List (Addr × Obj)} {Q : Value → Shared → Prop} {vs1 vs2 : List Value} {ns1 ns2 : List Int} {b1 b2 : Int} {t1 t2 : Tok}
theorem ne_norm (N : News h₀ L s.heap news) (m1 : (T1, tupObj #[.ref C1, .int b1 t1]) ∈ news) (m2 : (C1, tupObj vs1.toArray) ∈ news) (i1 : IntsAre vs1 ns1) (m3 : (T2, tupObj #[.ref C2, .int b2 t2]) ∈ news) (m4 : (C2, tupObj vs2.toArray) ∈ news) (i2 : IntsAre vs2 ns2)
    (hu : A.units + 64 < cLine) (h : Q (.bool (!(decide (ns1 = ns2) && decide (b1 = b2)))) s) : wpAny (model prog w) A (compareOp .NotEq (.ref T1) (.ref T2)) Q E s :=
  ne_dataH (reads_norm N m1 m2 i1) (reads_norm N m3 m4 i2) (shaped_norm _ _) (shaped_norm _ _) hu (by rw [eqv_norm]; exact h)
theorem eq_norm (N : News h₀ L s.heap news) (m1 : (T1, tupObj #[.ref C1, .int b1 t1]) ∈ news) (m2 : (C1, tupObj vs1.toArray) ∈ news) (i1 : IntsAre vs1 ns1) (m3 : (T2, tupObj #[.ref C2, .int b2 t2]) ∈ news) (m4 : (C2, tupObj vs2.toArray) ∈ news) (i2 : IntsAre vs2 ns2)
    (hu : A.units + 64 < cLine) (h : Q (.bool (decide (ns1 = ns2) && decide (b1 = b2))) s) : wpAny (model prog w) A (compareOp .Eq (.ref T1) (.ref T2)) Q E s :=
  eq_dataH (reads_norm N m1 m2 i1) (reads_norm N m3 m4 i2) (shaped_norm _ _) (shaped_norm _ _) hu (by rw [eqv_norm]; exact h)
def maxI (l : List Int) : Int := l.foldl max (-2)
theorem maxI_ge : ∀ (l : List Int) (a : Int), a ≤ l.foldl max a ∧ ∀ x ∈ l, x ≤ l.foldl max a
  | [], a => ⟨Int.le_refl _, fun _ h => nomatch h⟩
  | y :: l, a => by
    have h := maxI_ge l (max a y)
    rw [List.foldl_cons]
    refine ⟨Int.le_trans (Int.le_max_left a y) h.1, fun x hx => ?_⟩
    rcases List.mem_cons.mp hx with rfl | hx
    · exact Int.le_trans (Int.le_max_right a x) h.1
    · exact h.2 x hx
theorem maxI_mem : ∀ (l : List Int) (a : Int), l.foldl max a = a ∨ l.foldl max a ∈ l
  | [], a => .inl rfl
  | y :: l, a => by
    rw [List.foldl_cons]
    rcases maxI_mem l (max a y) with h | h
    · rcases Int.le_total a y with q | q
      · rw [Int.max_eq_right q] at h ⊢; right; rw [h]; exact List.mem_cons_self ..
      · rw [Int.max_eq_left q] at h ⊢; left; exact h
    · right; exact List.mem_cons_of_mem _ h
theorem maxI_is {l : List Int} {M : Int} (h1 : M ∈ l ++ [-2]) (h2 : ∀ a ∈ l ++ [-2], a ≤ M) : M = maxI l := by
  have g := maxI_ge l (-2)
  have hm : -2 ≤ M := h2 _ (List.mem_append.mpr (.inr (List.mem_singleton.mpr rfl)))
  refine Int.le_antisymm ?_ ?_
  · rcases List.mem_append.mp h1 with h | h
    · exact g.2 M h
    · rw [List.mem_singleton.mp h]; exact g.1
  · rcases maxI_mem l (-2) with h | h
    · unfold maxI; rw [h]; exact hm
    · exact h2 _ (List.mem_append.mpr (.inl h))
theorem max_V {l : Addr} {vs : List Value} {ns : List Int} (F : Fr h₀ L s.heap m) (N : News h₀ L s.heap news) (hl : s.heap.IsList l vs.toArray) (hi : IntsAre vs (ns ++ [-2])) (hh : A.handled = none)
    (h : ∀ h' (t : Tok) tk, Fr h₀ L h' m → News h₀ L h' news → Q (.int (maxI ns) t) { s with heap := h', toks := tk }) : wpAny (model prog w) A (call (.builtin "max") [.ref l]) Q E s :=
  kso_max F N hl hi (by rw [List.length_append]; exact Nat.lt_of_lt_of_le (by decide) (Nat.le_add_left 1 _)) hh fun h' M t tk F' N' h1 h2 => by rw [maxI_is h1 h2]; exact h h' t tk F' N'
end
end Mine
-- part Rules7
namespace Mine
theorem eqvAll_strs : ∀ xs ys : List Str, PyData.eqvAll (xs.map PyData.str) (ys.map PyData.str) = decide (xs = ys)
  | [], [] => by simp [PyData.eqvAll]
  | [], _ :: _ => by simp [PyData.eqvAll]
  | _ :: _, [] => by simp [PyData.eqvAll]
  | a :: r, b :: t => by
    simp only [List.map_cons, PyData.eqvAll, PyData.eqv, eqvAll_strs r t]
    by_cases h : a = b <;> by_cases h' : r = t <;> simp [h, h']
theorem shaped_strs {xs : List Str} (h : xs.all PyData.strOk = true) : SeqAt.shaped (.list (xs.map PyData.str)) = true := by
  simp [SeqAt.shaped, PyData.canLay0, PyData.depth, canLayAll_strs', depthAll_strs', h]
section
variable {prog : Program} {w : World} {A : Around} {E : Value → Shared → Prop} {s : Shared} {h₀ : Heap} {L a b : Addr} {news : List (Addr × Obj)} {Q : Value → Shared → Prop} {vs ws : List Value} {xs ys : List Str} {n k : Nat}
theorem eq_strsT (N : News h₀ L s.heap news) (m1 : (a, W.listOf vs.toArray n) ∈ news) (m2 : (b, W.listOf ws.toArray k) ∈ news) (S1 : StrsAre vs xs) (S2 : StrsAre ws ys) (e : xs = ys) (ok : ys.all PyData.strOk = true)
    (hu : A.units + 64 < cLine) (h : Q (.bool true) s) : wpAny (model prog w) A (compareOp .Eq (.ref a) (.ref b)) Q E s := by
  subst e
  refine eq_dataH (reads_list_at (N _ m1).1 rfl rfl (by simpa using S1.reads s.heap)) (reads_list_at (N _ m2).1 rfl rfl (by simpa using S2.reads s.heap)) (shaped_strs ok) (shaped_strs ok) hu ?_
  have e : PyData.eqv (.list (xs.map PyData.str)) (.list (xs.map PyData.str)) = true := by
    simp only [PyData.eqv, eqvAll_strs, decide_true]
  rw [e]; exact h
end
end Mine
-- part Loop3
namespace Mine
/-- the end of a turn of a loop whose target is any: it goes on -/
structure TurnEndT {σ : Type} (h₀ : Heap) (L I : Addr) (m₀ : Str → Option Value) (Led : σ → List (Addr × Obj)) (ps : σ → List (Str × Value)) (stored : List Str) (Inv : σ → Prop) (own : List (Addr × Obj)) (s₁ : Shared) (f : Flow) (s₂ : Shared) : Prop where
  nx : f = .next
  go : ∃ h' tk m' c, s₂ = { s₁ with heap := h', toks := tk } ∧ Fr h₀ L h' m' ∧ News h₀ L h' (Led c ++ own) ∧ (∀ p ∈ Led c, p.1 ≠ I) ∧ (∀ p ∈ ps c, m' p.1 = some p.2) ∧
    (∀ z, z ≠ Str.ofString "?" → (∀ p ∈ ps c, z ≠ p.1) → stored.contains z = false → m' z = m₀ z) ∧ Inv c
theorem TurnEndT.mk' {σ : Type} {h₀ : Heap} {L I : Addr} {m₀ : Str → Option Value} {Led : σ → List (Addr × Obj)} {ps : σ → List (Str × Value)} {stored : List Str} {Inv : σ → Prop} {own : List (Addr × Obj)} {s₁ : Shared} {h' : Heap} {tk : Nat} {m' : Str → Option Value} (c : σ)
    (F : Fr h₀ L h' m') (N : News h₀ L h' (Led c ++ own)) (ho : ∀ p ∈ Led c, p.1 ≠ I) (hk : ∀ p ∈ ps c, m' p.1 = some p.2) (hr : ∀ z, z ≠ Str.ofString "?" → (∀ p ∈ ps c, z ≠ p.1) → stored.contains z = false → m' z = m₀ z) (hi : Inv c) :
    TurnEndT h₀ L I m₀ Led ps stored Inv own s₁ .next { s₁ with heap := h', toks := tk } := ⟨rfl, h', tk, m', c, rfl, F, N, ho, hk, hr, hi⟩
section
variable {prog : Program} {w : World} {A : Around} {E : Value → Shared → Prop} {s : Shared} {env : Env} {h₀ : Heap} {target : Expr} {body : List Stmt} {Q : Flow → Shared → Prop}
theorem kst_frT {σ : Type} {h : Heap} {L : Addr} {m₀ m₁ : Str → Option Value} {ps : List (Str × Value)} {stored : List Str} (h1 : ∀ p ∈ ps, m₁ p.1 = some p.2) (h2 : ∀ z, z ≠ Str.ofString "?" → (∀ p ∈ ps, z ≠ p.1) → stored.contains z = false → m₁ z = m₀ z) (F : Fr h₀ L h m₁) :
    Fr h₀ L h (fun y => if y = Str.ofString "?" then m₁ y else kstB (fun z => if stored.contains z then m₁ z else m₀ z) ps y) := kst_frOut h1 h2 F
theorem iterT_list {σ : Type} {l : Addr} {vs : List Value} {m₀ : Str → Option Value} (Led : σ → List (Addr × Obj)) (ps : σ → List (Str × Value)) (stored : List Str) (Inv : Nat → σ → Prop) (c₀ : σ)
    (hh : A.handled = none) (hl : s.heap.IsList l vs.toArray) (hlL : l ≠ env.locals) (F : Fr h₀ env.locals s.heap m₀) (N : News h₀ env.locals s.heap (Led c₀)) (hk : ∀ p ∈ ps c₀, m₀ p.1 = some p.2) (hi : Inv 0 c₀)
    (turn : ∀ i v (c : σ) (u : Str → Option Value) (s₁ : Shared) own I oI, vs[i]? = some v → Inv i c → (∀ p ∈ Led c, p.1 ≠ I) → (I, oI) ∈ own → (∀ p ∈ own, p.1 = I ∨ p.1 = l) →
      Fr h₀ env.locals s₁.heap (fun y => if y = Str.ofString "?" then u y else kstB (fun z => if stored.contains z then u z else m₀ z) (ps c) y) → News h₀ env.locals s₁.heap (Led c ++ own) →
      wpAny (model prog w) A (assign target env v) (fun _ s₃ => wpAny (model prog w) A (execs body env) (TurnEndT h₀ env.locals I m₀ Led ps stored (Inv (i + 1)) own s₁) E s₃) E s₁)
    (done : ∀ (c : σ) (u : Str → Option Value) h tk, Inv vs.length c → Fr h₀ env.locals h (fun y => if y = Str.ofString "?" then u y else kstB (fun z => if stored.contains z then u z else m₀ z) (ps c) y) → News h₀ env.locals h (Led c) → Q .next { s with heap := h, toks := tk }) :
    wpAny (model prog w) A (pyIter (.ref l)) (fun it s₂ => LoopAtT prog w A h₀ env target body Q E it s₂) E s := by
  refine wpAny_pyIter_list hl ?_
  obtain ⟨ol, hol, _⟩ := id hl
  have hne : l ≠ s.heap.objs.size := Nat.ne_of_lt (Heap.lt_size hol)
  have W := Walks.list (prog := prog) (w := w) hh s.heap.objs.size l hne vs.toArray
  rw [List.size_toArray] at W
  let J : Nat → (Str → Option Value) → List (Addr × Obj) → Prop := fun i m news => ∃ c, news = Led c ∧ (∀ p ∈ ps c, m p.1 = some p.2) ∧ (∀ z, z ≠ Str.ofString "?" → (∀ p ∈ ps c, z ≠ p.1) → stored.contains z = false → m z = m₀ z) ∧ Inv i c
  refine ⟨s.heap.objs.size, [s.heap.objs.size, l], [s.heap.objs.size], vs.length, _, _, m₀, Led c₀, J, rfl, W, ?_, ?_, ?_, ⟨⟨_, Heap.get?_push_size _ rfl, rfl, rfl⟩, hl.at fun o e => Heap.get?_push_of_some _ e⟩, F.push _, (fun p hp => ⟨Heap.get?_push_of_some _ (N p hp).1, (N p hp).2⟩), (fun i s' v Q' st hQ' => letGo_listiter st.1 hQ'), ⟨c₀, rfl, hk, fun _ _ _ _ => rfl, hi⟩, ?_, ?_⟩
  · intro hm
    rcases List.mem_cons.mp hm with e | hm
    · exact absurd F.ns.lt (e ▸ Nat.lt_irrefl _)
    · exact hlL (List.mem_singleton.mp hm).symm
  · intro b hb; rw [List.mem_singleton.mp hb]; exact next_is_new F
  · intro p hp hm; exact absurd (List.mem_singleton.mp hm) (Nat.ne_of_lt (Heap.lt_size (N p hp).1))
  · rintro i v m₁ news₁ s₁ own hin hP ⟨c, rfl, h1, h2, hj⟩ hoff hown _ hall hst₁ F₁ N₁
    obtain ⟨oI, hoI, _⟩ := hst₁.1
    have hoff' : ∀ p ∈ Led c, p.1 ≠ s.heap.objs.size := fun p hp e => hoff p hp (List.mem_singleton.mpr e)
    have hmem : (s.heap.objs.size, oI) ∈ own := hall _ (List.mem_cons_self ..) (next_is_new F) oI hoI
    refine wpAny_mono (turn i v c m₁ s₁ own _ oI (by simpa using hP) hj hoff' hmem (fun p hp => by simpa using hown p hp) (kst_frT (σ := σ) h1 h2 F₁) (fun p hp => N₁ p ((List.mem_append.mp hp).elim (fun h => List.mem_append.mpr (.inr h)) fun h => List.mem_append.mpr (.inl h))))
      (fun _ s₃ z => wpAny_mono z (fun f s₂ z => ?_) fun _ _ e => e) fun _ _ e => e
    obtain ⟨rfl, h', tk, m', c', e, F', N', ho, g1, g2, g3⟩ := z
    exact ⟨rfl, h', tk, m', Led c', e, F', fun p hp => N' p ((List.mem_append.mp hp).elim (fun h => List.mem_append.mpr (.inr h)) fun h => List.mem_append.mpr (.inl h)), fun p hp hm => ho p hp (List.mem_singleton.mp hm), c', rfl, g1, g2, g3⟩
  · rintro h' tk m' news' F' N' _ ⟨c, rfl, h1, h2, hj⟩
    exact done c m' h' tk hj (kst_frT (σ := σ) h1 h2 F') N'
end
end Mine
-- part Srt
namespace Mine
def leS (a b : Str) : Prop := a.cps.toList ≤ b.cps.toList
theorem leS_of {a b : Str} (h : (!ltCps b.cps.toList a.cps.toList) = true) : leS a b := by
  rw [ltCps_eq] at h
  simp only [Bool.not_eq_true', decide_eq_false_iff_not] at h
  exact List.not_lt.mp h
theorem leS_trans {a b c : Str} (h1 : leS a b) (h2 : leS b c) : leS a c := List.le_trans h1 h2
theorem leS_anti {a b : Str} (h1 : leS a b) (h2 : leS b a) : a = b := by
  have := List.le_antisymm h1 h2
  cases a; cases b
  simp only at this
  congr 1
  exact Array.toList_inj.mp this
theorem rising_pair : ∀ (l : List Str) (p : Str), risingS p l = true → (p :: l).Pairwise leS
  | [], p, _ => .cons (fun _ h => nomatch h) .nil
  | x :: r, p, h => by
    have h : (!ltCps x.cps.toList p.cps.toList && risingS x r) = true := h
    obtain ⟨h1, h2⟩ := Bool.and_eq_true_iff.mp h
    have ih := rising_pair r x h2
    refine .cons (fun y hy => ?_) ih
    rcases List.mem_cons.mp hy with rfl | hy
    · exact leS_of h1
    · exact leS_trans (leS_of h1) ((List.pairwise_cons.mp ih).1 y hy)
theorem sorted_pair : ∀ l : List Str, sortedS l = true → l.Pairwise leS
  | [], _ => .nil
  | x :: r, h => rising_pair r x h
theorem pair_uniq : ∀ {a b : List Str}, a.Perm b → a.Pairwise leS → b.Pairwise leS → a = b
  | [], _, p, _, _ => p.nil_eq
  | x :: r, b, p, ha, hb => by
    cases b with
    | nil => exact absurd p.length_eq (by simp)
    | cons y t =>
      have hx : x ∈ y :: t := p.mem_iff.mp (.head _)
      have hy : y ∈ x :: r := p.mem_iff.mpr (.head _)
      have e : x = y := by
        rcases List.mem_cons.mp hx with h | h
        · exact h
        · rcases List.mem_cons.mp hy with h' | h'
          · exact h'.symm
          · exact leS_anti ((List.pairwise_cons.mp ha).1 y h') ((List.pairwise_cons.mp hb).1 x h)
      subst e
      rw [pair_uniq (List.Perm.cons_inv p) (List.pairwise_cons.mp ha).2 (List.pairwise_cons.mp hb).2]
theorem sorted_uniq {a b : List Str} (hp : a.Perm b) (ha : sortedS a = true) (hb : sortedS b = true) : a = b := pair_uniq hp (sorted_pair a ha) (sorted_pair b hb)
theorem joinE : ∀ xs : List (List Nat), Str.join ⟨#[]⟩ (xs.map mkS) = mkS xs.flatten
  | [] => rfl
  | [x] => by
    show mkS x = mkS [x].flatten
    simp
  | x :: y :: r => by
    show mkS x ++ mkS [] ++ Str.join ⟨#[]⟩ ((y :: r).map mkS) = _
    rw [joinE (y :: r), mkS_app, mkS_app]
    simp
theorem join_mkS (xs : List (List Nat)) : Txt.join ⟨#[]⟩ (xs.map mkS) = mkS xs.flatten := by
  have e : Txt.join ⟨#[]⟩ (xs.map mkS) = Str.join ⟨#[]⟩ (xs.map mkS) := StrLaws.glued_eq_join _ _
  rw [e, joinE]
end Mine
-- part Fast2
namespace Mine
theorem mkS_inj {a b : List Nat} (h : mkS a = mkS b) : a = b := by simpa [mkS] using h
def putL (xs : List (List Nat)) (c : List Nat) : List (List Nat) := if c ∈ xs then xs else xs ++ [c]
theorem put_is (xs : List (List Nat)) (c : List Nat) : putS (xs.map mkS) (mkS c) = (putL xs c).map mkS := by
  unfold putS putL
  have e : mkS c ∈ xs.map mkS ↔ c ∈ xs := ⟨fun h => by obtain ⟨d, hd, e⟩ := List.mem_map.mp h; rw [← mkS_inj e]; exact hd, fun h => List.mem_map_of_mem h⟩
  by_cases h : c ∈ xs
  · rw [if_pos (e.mpr h), if_pos h]
  · rw [if_neg (fun q => h (e.mp q)), if_neg h, List.map_append]; rfl
def stepJL (now one two : List Nat) (i : Nat) (xs : List (List Nat)) (j : Nat) : List (List Nat) := if fitsL now one two i (i + 3 + j) then putL xs (chgL now one two i (i + 3 + j)) else xs
def stepIL (now one two : List Nat) (xs : List (List Nat)) (i : Nat) : List (List Nat) := (List.range (4 - i)).foldl (stepJL now one two i) xs
def turnL (now one two : List Nat) (xs : List (List Nat)) : List (List Nat) := (List.range 4).foldl (stepIL now one two) xs
def comeL : Nat → Nat → List (List Nat) → List (List Nat)
  | 0, _, xs => xs
  | f + 1, k, xs => match xs[k]? with
    | none => xs
    | some now => comeL f (k + 1) (turnL now [98, 97] [97, 98] (turnL now [97, 98] [98, 97] xs))
theorem stepJ_is {now one two : List Nat} {i j : Nat} {xs : List (List Nat)} (h6 : now.length = 6) (h1 : one.length = 2) (h2 : two.length = 2) (hj : j < 4 - i) :
    stepJ (mkS now) (mkS one) (mkS two) i (xs.map mkS) j = (stepJL now one two i xs j).map mkS := by
  unfold stepJ stepJL
  have e1 : (0 + (i : Int)) = (i : Int) := by omega
  have e2 : ((i : Int) + 3 + (j : Int)) = ((i + 3 + j : Nat) : Int) := by omega
  rw [e1, e2, fits_is (by omega) (by omega)]
  by_cases h : fitsL now one two i (i + 3 + j) = true
  · rw [if_pos h, if_pos h, chg_is (by omega) (fits_four h6 h1 h2 hj h), put_is]
  · rw [if_neg h, if_neg h]
def six (xs : List (List Nat)) : Prop := ∀ x ∈ xs, x.length = 6
theorem six_step {now one two : List Nat} {i j : Nat} {xs : List (List Nat)} (h6 : now.length = 6) (h1 : one.length = 2) (h2 : two.length = 2) (hj : j < 4 - i) (hx : six xs) : six (stepJL now one two i xs j) := by
  unfold stepJL
  split
  · rename_i h
    have h4 := fits_four h6 h1 h2 hj h
    unfold putL
    split
    · exact hx
    · intro x hx'
      rcases List.mem_append.mp hx' with q | q
      · exact hx x q
      · rw [List.mem_singleton.mp q]
        simp only [chgL, List.length_append, List.length_take, List.length_drop]; omega
  · exact hx
theorem fold_is {f : List Str → Nat → List Str} {g : List (List Nat) → Nat → List (List Nat)} : ∀ (ks : List Nat) (xs : List (List Nat)), (∀ k ∈ ks, ∀ xs, six xs → f (xs.map mkS) k = (g xs k).map mkS ∧ six (g xs k)) → six xs → ks.foldl f (xs.map mkS) = (ks.foldl g xs).map mkS ∧ six (ks.foldl g xs)
  | [], xs, _, hx => ⟨rfl, hx⟩
  | k :: ks, xs, h, hx => by
    obtain ⟨a, b⟩ := h k (List.mem_cons_self ..) xs hx
    rw [List.foldl_cons, List.foldl_cons, a]
    exact fold_is ks _ (fun q hq => h q (List.mem_cons_of_mem _ hq)) b
theorem turn_is {now one two : List Nat} {xs : List (List Nat)} (h6 : now.length = 6) (h1 : one.length = 2) (h2 : two.length = 2) (hx : six xs) :
    turnW (mkS now) (mkS one) (mkS two) (xs.map mkS) = (turnL now one two xs).map mkS ∧ six (turnL now one two xs) :=
  fold_is _ _ (fun i _ ys hy => fold_is _ _ (fun j hj zs hz => ⟨stepJ_is h6 h1 h2 (List.mem_range.mp hj), six_step h6 h1 h2 (List.mem_range.mp hj) hz⟩) hy) hx
theorem come_is : ∀ (f k : Nat) (xs : List (List Nat)), six xs → comeW f k (xs.map mkS) = (comeL f k xs).map mkS
  | 0, _, _, _ => rfl
  | f + 1, k, xs, hx => by
    unfold comeW comeL
    rw [List.getElem?_map]
    cases h : xs[k]? with
    | none => rfl
    | some now =>
      have h6 := hx now (List.mem_of_getElem? h)
      have eab : Str.ofString "ab" = mkS [97, 98] := by decide
      have eba : Str.ofString "ba" = mkS [98, 97] := by decide
      simp only [Option.map_some]
      rw [eab, eba]
      obtain ⟨a, b⟩ := turn_is (one := [97, 98]) (two := [98, 97]) h6 rfl rfl hx
      obtain ⟨c, d⟩ := turn_is (one := [98, 97]) (two := [97, 98]) h6 rfl rfl b
      rw [a, c]
      exact come_is f (k + 1) _ d
end Mine
-- part LawS
namespace Mine
/-- one row of a lead -/
def rowStep (st : WSt) (n : Nat) : WSt := { cnt := bump st.cnt (n : Int), b := 0, n := st.n + ((n : Int) + 1), nt := st.nt + 1 }
theorem ws_row (n : Nat) (st : WSt) : (List.replicate n 32).foldl wsStep st = { st with b := st.b + (n : Int), n := st.n + (n : Int) } := by
  induction n generalizing st with
  | zero => simp
  | succ n ih =>
    rw [List.replicate_succ, List.foldl_cons, ih]
    unfold wsStep
    rw [if_pos rfl]
    have e1 : st.b + 1 + (n : Int) = st.b + ((n + 1 : Nat) : Int) := by omega
    have e2 : st.n + 1 + (n : Int) = st.n + ((n + 1 : Nat) : Int) := by omega
    show ({ st with b := st.b + 1 + (n : Int), n := st.n + 1 + (n : Int) } : WSt) = _
    rw [e1, e2]
theorem ws_rows : ∀ (r : List Nat) (st : WSt), st.b = 0 → (leadTxt r).foldl wsStep st = r.foldl rowStep st
  | [], _, _ => rfl
  | n :: r, st, h => by
    have e : leadTxt (n :: r) = List.replicate n 32 ++ (9 :: leadTxt r) := by
      unfold leadTxt; rw [List.map_cons, List.flatten_cons, List.append_assoc]; rfl
    rw [e, List.foldl_append, ws_row, List.foldl_cons, List.foldl_cons]
    have e2 : wsStep { st with b := st.b + (n : Int), n := st.n + (n : Int) } 9 = rowStep st n := by
      unfold wsStep rowStep
      rw [if_neg (by decide), h]
      have e1 : (0 : Int) + (n : Int) = (n : Int) := by omega
      have e3 : st.n + (n : Int) + 1 = st.n + ((n : Int) + 1) := by omega
      show ({ cnt := bump st.cnt (0 + (n : Int)), b := 0, n := st.n + (n : Int) + 1, nt := st.nt + 1 } : WSt) = _
      rw [e1, e3]
    rw [e2]
    exact ws_rows r _ rfl
def stL (r : List Nat) : WSt := r.foldl rowStep ⟨[], 0, 0, 0⟩
theorem stL_is (r : List Nat) : wsAll (leadTxt r) = stL r := ws_rows r _ rfl
end Mine
-- part LawD
namespace Mine
def stOf (l : List Nat) : WSt := wsAll (leadTxt (mailRows l.reverse))
theorem allW_len : ∀ n, ∀ l ∈ allW n, l.length = n ∧ ∀ c ∈ l, c = 97 ∨ c = 98
  | 0, l, h => by
    rw [List.mem_singleton.mp h]; exact ⟨rfl, fun _ h => nomatch h⟩
  | n + 1, l, h => by
    unfold allW at h
    rcases List.mem_append.mp h with h | h
    · obtain ⟨r, hr, rfl⟩ := List.mem_map.mp h
      obtain ⟨h1, h2⟩ := allW_len n r hr
      exact ⟨by rw [List.length_cons, h1], fun c hc => by rcases List.mem_cons.mp hc with rfl | hc; exact .inl rfl; exact h2 c hc⟩
    · obtain ⟨r, hr, rfl⟩ := List.mem_map.mp h
      obtain ⟨h1, h2⟩ := allW_len n r hr
      exact ⟨by rw [List.length_cons, h1], fun c hc => by rcases List.mem_cons.mp hc with rfl | hc; exact .inr rfl; exact h2 c hc⟩
def goodMailB (r : List Nat) : Bool := (subAll code2 (mailOf r).cps crlf == some (mailOf r)) && (subAll code1 (mailOf r).cps dots == some (mailOf (r.map (· + 1))))
theorem gm_all : (List.range 6).all (fun k => (allW k).all fun l => goodMailB (mailRows l)) = true := by decide +kernel
def repB (l : List Nat) : Bool := (Txt.replace (mailOf (mailRows l.reverse)) (Str.ofString ".") (Str.ofString " ") == midOf (mailRows l.reverse)) && (Txt.replace (midOf (mailRows l.reverse)) (Str.ofString "\x0d\n") (Str.ofString "\t") == leadOf (mailRows l.reverse))
theorem rep_all : (allW 6).all repB = true := by decide +kernel
def pzW (l : List Nat) (k : Int) : Bool := Txt.item (mkS l) k == Str.ofString "b"
def cntW (l : List Nat) (k : Int) : Int := Txt.count (Txt.slice (mkS l) none (some k)) (Str.ofString "a")
def aheadW (l : List Nat) : List Int := ((rangeInts 0 1 6).filter (pzW l)).map (cntW l)
abbrev ca (l : List Nat) : Int := Txt.count (mkS l) (Str.ofString "a")
abbrev cb (l : List Nat) : Int := Txt.count (mkS l) (Str.ofString "b")
def wordsL (l : List Nat) : List (List Nat) := lawWords 6 (ca l).toNat (cb l).toNat
def cntOk (l : List Nat) : Bool := decide (0 ≤ ca l ∧ 0 ≤ cb l ∧ ca l + cb l ≤ 6) && (wordsL l).all fun r => r.length == 6 && r.all fun c => c == 97 || c == 98
theorem cnt_all : (allW 6).all cntOk = true := by decide +kernel
def isLong (l r : List Nat) : Bool := decide ((stOf r).n = (stOf l).n)
def isDue (l r : List Nat) : Bool := decide ((aheadW r).sum = (aheadW l).sum)
def nW (r : List Nat) : Nat := (maxI (aheadW r) + 1 - -1).toNat
def normW (r : List Nat) : List Int := (((rangeInts (-1) 1 (nW r)).filter fun _ => true).map fun k => (((aheadW r).count k : Nat) : Int))
def rowsL (l : List Nat) : List Nat := mailRows l.reverse
theorem stOf_is (l : List Nat) : stOf l = stL (rowsL l) := stL_is _
def aheadGo : Nat → List Nat → List Int
  | _, [] => []
  | a, c :: l => if c = 97 then aheadGo (a + 1) l else (a : Int) :: aheadGo a l
theorem ahead_all : (allW 6).all (fun l => decide (aheadW l = aheadGo 0 l)) = true := by decide +kernel
theorem ahead_is {l : List Nat} (hl : l ∈ allW 6) : aheadW l = aheadGo 0 l := of_decide_eq_true (List.all_eq_true.mp ahead_all l hl)
def sumN (r : List Nat) : Nat := r.foldl (fun a n => a + n + 1) 0
theorem n_go : ∀ (r : List Nat) (st : WSt) (k : Nat), st.n = (k : Int) → (r.foldl rowStep st).n = ((r.foldl (fun a n => a + n + 1) k : Nat) : Int)
  | [], _, _, h => h
  | n :: r, st, k, h => by
    rw [List.foldl_cons, List.foldl_cons]
    exact n_go r _ _ (by show st.n + ((n : Int) + 1) = _; rw [h]; omega)
theorem stN_is (l : List Nat) : (stOf l).n = (sumN (rowsL l) : Nat) := by
  rw [stOf_is]; exact n_go _ _ 0 rfl
def sumA : Nat → List Nat → Nat
  | _, [] => 0
  | a, c :: l => if c = 97 then sumA (a + 1) l else a + sumA a l
theorem sum_go : ∀ (l : List Nat) (a : Nat), (aheadGo a l).sum = (sumA a l : Nat)
  | [], _ => rfl
  | c :: l, a => by
    unfold aheadGo sumA
    split
    · exact sum_go l _
    · rw [List.sum_cons, sum_go l a]; omega
def wordsM (k : Nat) : List (List Nat) := (allW 6).filter fun r => r.count 97 == k
theorem wordsM_all : (allW 6).all (fun l => decide (wordsL l = wordsM (l.count 97))) = true := by decide +kernel
theorem wordsM_is {l : List Nat} (hl : l ∈ allW 6) : wordsL l = wordsM (l.count 97) := of_decide_eq_true (List.all_eq_true.mp wordsM_all l hl)
def wordB (r : List Nat) : Bool := decide (-2 ≤ maxI (aheadGo 0 r) ∧ maxI (aheadGo 0 r) ≤ 6 ∧ (stL (rowsL r)).cnt = (((rangeInts (-1) 1 ((maxI (aheadGo 0 r) + 1 - -1).toNat)).filter fun _ => true).map fun k => (((aheadGo 0 r).count k : Nat) : Int)) ∧ (stL (rowsL r)).b = 0)
theorem word_all : (allW 6).all wordB = true := by decide +kernel
/-- what a norm tells, as numbers -/
def tabB : List (List Nat × List Int) := (allW 6).map fun l => (l, (stL (rowsL l)).cnt)
theorem tab_all : tabB.all (fun p => tabB.all fun q => (p.1.count 97 != q.1.count 97) || (decide (p.2 = q.2) == decide (q.1 = p.1))) = true := by decide +kernel
theorem b_zero : ∀ (r : List Nat) (st : WSt), st.b = 0 → (r.foldl rowStep st).b = 0
  | [], _, h => h
  | n :: r, _, _ => by rw [List.foldl_cons]; exact b_zero r _ rfl
def longC (l r : List Nat) : Bool := sumN (rowsL r) == sumN (rowsL l)
def dueC (l r : List Nat) : Bool := sumA 0 r == sumA 0 l
def dueW (l : List Nat) : List (List Nat) := (wordsM (l.count 97)).filter (dueC l)
def endB (l : List Nat) : Bool := ((wordsM (l.count 97)).filter (longC l) == dueW l) && decide ((comeL 20 0 [l]).length < 64) && ((dueW l).isPerm (comeL 20 0 [l]) && sortedS ((dueW l).map mkS))
theorem end_all : (allW 6).all endB = true := by decide +kernel
end Mine
-- part LawP
namespace Mine
def let1 (v : Int) : Str := Txt.item (Str.ofString "ab") (Int.fmod v 2)
theorem let1_is (v : Int) : let1 v = mkS [if Int.fmod v 2 = 0 then 97 else 98] := by
  have h := fdiv_fmod_facts v 2
  have h2 : Int.fmod v 2 = 0 ∨ Int.fmod v 2 = 1 := by omega
  unfold let1
  rcases h2 with e | e
  · rw [e]; decide
  · rw [e]; decide
def letN (v : Int) : Nat := if Int.fmod v 2 = 0 then 97 else 98
theorem join_lets : ∀ vs : List Int, Txt.join ⟨#[]⟩ (vs.map let1) = mkS (vs.map letN) := by
  have key : ∀ (l : List Str) (xs : List (List Nat)), l = xs.map mkS → Txt.join ⟨#[]⟩ l = mkS xs.flatten := by
    intro l xs e
    rw [e]; exact join_mkS xs
  intro vs
  rw [key _ (vs.map fun v => [letN v]) (by rw [List.map_map]; exact List.map_congr_left fun v _ => let1_is v)]
  congr 1
  induction vs with
  | nil => rfl
  | cons v r ih => rw [List.map_cons, List.flatten_cons, ih]; rfl
theorem word6 (ns : List Int) : ∃ l ∈ allW 6, Txt.join (Str.ofString "") ((ns.take 6 ++ [0, 1, 1, 0, 1, 0].drop ((ns.length : Int)).toNat).map let1) = mkS l := by
  refine ⟨_, ?_, (by rw [show Str.ofString "" = ⟨#[]⟩ from by decide]; exact join_lets _)⟩
  refine mem_allW 6 _ ?_ ?_
  · simp only [List.length_map, List.length_append, List.length_take, List.length_drop, List.length_cons, List.length_nil]; omega
  · intro c hc
    obtain ⟨v, _, rfl⟩ := List.mem_map.mp hc
    unfold letN
    split
    · exact .inl rfl
    · exact .inr rfl
theorem word6' {vs : List Value} {ns : List Int} (_ : IntsAre vs (ns.take 6 ++ [0, 1, 1, 0, 1, 0].drop ((ns.length : Int)).toNat)) :
    ∃ l ∈ allW 6, Txt.join (Str.ofString "") ((ns.take 6 ++ [0, 1, 1, 0, 1, 0].drop ((ns.length : Int)).toNat).map let1) = mkS l := word6 ns
theorem strs_comp {α : Type} {f : α → Str} {as : List α} {ys : List Value} (cv : CarriedAll ys ((as.filter fun _ => true).map fun q => PyData.str (f q))) : StrsAre ys (as.map f) := by
  rw [List.filter_eq_self.mpr (fun _ _ => rfl)] at cv
  refine StrsAre.ofCarried ?_
  rw [List.map_map]
  exact cv
theorem lets_len (vs : List Int) : ((vs.map let1).map (·.length)).sum = vs.length := by
  induction vs with
  | nil => rfl
  | cons v r ih => rw [List.map_cons, List.map_cons, List.sum_cons, ih, let1_is, List.length_cons]; show 1 + _ = _; omega
structure LeadOk (l : List Nat) : Prop where
  hg : ∀ k, k < 6 → GoodMail (mailRows (l.reverse.take k))
  hr1 : Txt.replace (mailOf (mailRows l.reverse)) (Str.ofString ".") (Str.ofString " ") = midOf (mailRows l.reverse)
  hr2 : Txt.replace (midOf (mailRows l.reverse)) (Str.ofString "\x0d\n") (Str.ofString "\t") = leadOf (mailRows l.reverse)
theorem leadOk : ∀ l ∈ allW 6, LeadOk l := by
  intro l hl
  have h := List.all_eq_true.mp rep_all l hl
  simp only [repB, Bool.and_eq_true, beq_iff_eq] at h
  refine ⟨fun k hk => ?_, h.1, h.2⟩
  obtain ⟨h1, h2⟩ := allW_len 6 l hl
  have g := List.all_eq_true.mp (List.all_eq_true.mp gm_all k (List.mem_range.mpr hk)) (l.reverse.take k) (mem_allW k _ (by rw [List.length_take, List.length_reverse, h1]; omega) fun c hc => h2 c (List.mem_reverse.mp (List.mem_of_mem_take hc)))
  simp only [goodMailB, Bool.and_eq_true, beq_iff_eq] at g
  exact g
theorem leadW (w : World) (l : List Nat) (hl : l ∈ allW 6) (t : Tok) : Pure1 w 550 5500 140 [.str (mkS l) t] (WsMade w.params 124 (leadOf (mailRows l.reverse)) (stOf l)) := by
  obtain ⟨h1, h2⟩ := allW_len 6 l hl
  have O := leadOk l hl
  exact lead w (mkS l) t (by show l.toArray.size ≤ 10; rw [List.size_toArray, h1]; decide) h2 (fun k hk => O.hg k (by rw [← h1]; exact hk)) O.hr1 O.hr2
theorem ints_comp {α : Type} {f : α → Int} {as : List α} {ys : List Value} (cv : CarriedAll ys (as.map fun q => PyData.int (f q))) : IntsAre ys (as.map f) := by
  refine IntsAre.ofCarried ?_
  rw [List.map_map]
  exact cv
theorem counts (l : List Nat) (hl : l ∈ allW 6) : 0 ≤ ca l ∧ 0 ≤ cb l ∧ ca l + cb l ≤ 6 := by
  have h := List.all_eq_true.mp cnt_all l hl
  simp only [cntOk, Bool.and_eq_true, decide_eq_true_eq] at h
  exact h.1
theorem words_in (l : List Nat) (hl : l ∈ allW 6) : ∀ r ∈ wordsL l, r ∈ allW 6 := by
  intro r hr
  have h := List.all_eq_true.mp cnt_all l hl
  simp only [cntOk, Bool.and_eq_true, List.all_eq_true, Bool.or_eq_true, beq_iff_eq] at h
  exact mem_allW 6 r (h.2 r hr).1 (h.2 r hr).2
theorem made_ne {h₀ h h' : Heap} {L a : Addr} {o : Obj} {news l : List (Addr × Obj)} (N : News h₀ L h news) (M : MadeN h h' l) (hm : (a, o) ∈ l) : ∀ p ∈ news, p.1 ≠ a := fun p hp e => by
  have h1 := (N p hp).1
  have h2 := (M _ hm).2
  rw [e] at h1; rw [h1] at h2; cases h2
def AllNe (D : Nat) : List (Addr × Obj) → Prop
  | [] => True
  | p :: l => @Ne Nat p.1 D ∧ AllNe D l
theorem allNe_of {D : Addr} : ∀ {l : List (Addr × Obj)}, (∀ p ∈ l, p.1 ≠ D) → AllNe D l
  | [], _ => trivial
  | p :: l, h => ⟨h p (List.mem_cons_self ..), allNe_of fun q hq => h q (List.mem_cons_of_mem _ hq)⟩
structure LW where
  lvs : List Value
  lcap : Nat
  dvs : List Value
  dcap : Nat
  o2 : Obj
  o3 : Obj
abbrev ledB {h₀ h : Heap} {L : Addr} {p0 p1 p2 p3 p4 p5 p6 p7 p8 p9 pa pb pc pd pe : Addr × Obj} {l : List (Addr × Obj)} (_ : News h₀ L h (p0 :: p1 :: p2 :: p3 :: p4 :: p5 :: p6 :: p7 :: p8 :: p9 :: pa :: pb :: pc :: pd :: pe :: l)) (c : LW) : List (Addr × Obj) :=
  [p0, (p1.1, W.listOf c.dvs.toArray c.dcap), (p2.1, W.listOf c.lvs.toArray c.lcap), p4, p5, p6, p7, (pc.1, c.o3), (pd.1, c.o2), pe]
abbrev adrB {h₀ h : Heap} {L : Addr} {p0 p1 p2 p3 p4 p5 p6 p7 p8 p9 pa pb pc pd pe : Addr × Obj} {l : List (Addr × Obj)} (_ : News h₀ L h (p0 :: p1 :: p2 :: p3 :: p4 :: p5 :: p6 :: p7 :: p8 :: p9 :: pa :: pb :: pc :: pd :: pe :: l)) : List Addr := [p1.1, p2.1, pc.1, pd.1, pe.1]
def longL (l : List Nat) (i : Nat) : List Str := (((wordsL l).take i).filter (isLong l)).map mkS
def dueL (l : List Nat) (i : Nat) : List Str := (((wordsL l).take i).filter (isDue l)).map mkS
structure LInv (l : List Nat) (i : Nat) (c : LW) : Prop where
  sl : StrsAre c.lvs (longL l i)
  sd : StrsAre c.dvs (dueL l i)
  c2 : ∃ v, c.o2.data = .cell v
  c3 : ∃ v, c.o3.data = .cell v
theorem strs_at {vs : List Value} {xs : List Str} (h : StrsAre vs xs) : ∀ (i : Nat) v, vs[i]? = some v → ∃ x t, xs[i]? = some x ∧ v = .str x t := by
  induction h with
  | nil => intro i v e; cases e
  | cons x t r ih =>
    intro i v e
    cases i with
    | zero => cases e; exact ⟨x, t, rfl, rfl⟩
    | succ i => exact ih i v e
theorem word_at {vs : List Value} {l : List Nat} {i : Nat} {v : Value} (hl : l ∈ allW 6) (h : StrsAre vs ((wordsL l).map mkS)) (e : vs[i]? = some v) : ∃ r t, (wordsL l)[i]? = some r ∧ r ∈ allW 6 ∧ (mkS r).length = 6 ∧ v = .str (mkS r) t := by
  obtain ⟨x, t, hx, rfl⟩ := strs_at h i v e
  rw [List.getElem?_map] at hx
  cases hr : (wordsL l)[i]? with
  | none => rw [hr] at hx; cases hx
  | some r =>
    rw [hr] at hx; cases hx
    have hm := words_in l hl r (List.mem_of_getElem? hr)
    exact ⟨r, t, rfl, hm, by show r.toArray.size = 6; rw [List.size_toArray, (allW_len 6 r hm).1], rfl⟩
theorem ahead_len (r : List Nat) : (aheadW r).length ≤ 6 := by
  unfold aheadW
  rw [List.length_map]
  exact Nat.le_trans (List.length_filter_le _ _) (Nat.le_of_eq (rangeInts_length _ _ _))
structure WordOk (r : List Nat) : Prop where
  m1 : -2 ≤ maxI (aheadW r)
  m2 : maxI (aheadW r) ≤ 6
  cn : (stOf r).cnt = normW r
  b0 : (stOf r).b = 0
theorem wordOk : ∀ r ∈ allW 6, WordOk r := by
  intro r hr
  have h := List.all_eq_true.mp word_all r hr
  simp only [wordB, decide_eq_true_eq] at h
  have e := ahead_is hr
  have e2 := stOf_is r
  refine ⟨by rw [e]; exact h.1, by rw [e]; exact h.2.1, ?_, by rw [e2]; exact h.2.2.2⟩
  unfold normW nW
  rw [e2, e]
  exact h.2.2.1
theorem pairOk : ∀ l ∈ allW 6, ∀ r ∈ wordsL l, (decide ((stOf l).cnt = (stOf r).cnt) && decide ((stOf l).b = (stOf r).b)) = decide (r = l) := by
  intro l hl r hr
  have hm := words_in l hl r hr
  rw [wordsM_is hl] at hr
  have hc : r.count 97 = l.count 97 := eq_of_beq (List.mem_filter.mp hr).2
  have ml : (l, (stL (rowsL l)).cnt) ∈ tabB := List.mem_map_of_mem (f := fun l => (l, (stL (rowsL l)).cnt)) hl
  have mr : (r, (stL (rowsL r)).cnt) ∈ tabB := List.mem_map_of_mem (f := fun l => (l, (stL (rowsL l)).cnt)) hm
  have h := List.all_eq_true.mp (List.all_eq_true.mp tab_all _ ml) _ mr
  simp only [hc, bne_self_eq_false, Bool.false_or] at h
  have h := eq_of_beq h
  rw [stOf_is l, stOf_is r, h]
  have e1 : (stL (rowsL l)).b = 0 := b_zero _ _ rfl
  have e2 : (stL (rowsL r)).b = 0 := b_zero _ _ rfl
  rw [e1, e2]
  simp
theorem mkS_beq (r l : List Nat) : (mkS r == mkS l) = decide (r = l) := by
  by_cases h : r = l
  · subst h; simp
  · have : mkS r ≠ mkS l := fun e => h (by simpa [mkS] using e)
    simp [h, this]
section
variable {prog : Program} {w : World} {A : Around} {E : Value → Shared → Prop} {s : Shared} {h₀ : Heap} {L T1 C1 T2 C2 : Addr} {news : List (Addr × Obj)} {Q : Value → Shared → Prop} {vs1 vs2 : List Value} {ns1 ns2 : List Int} {b1 b2 : Int} {t1 t2 : Tok}
theorem ne_same (N : News h₀ L s.heap news) (m1 : (T1, tupObj #[.ref C1, .int b1 t1]) ∈ news) (m2 : (C1, tupObj vs1.toArray) ∈ news) (i1 : IntsAre vs1 ns1) (m3 : (T2, tupObj #[.ref C2, .int b2 t2]) ∈ news) (m4 : (C2, tupObj vs2.toArray) ∈ news) (i2 : IntsAre vs2 ns2)
    (hu : A.units + 64 < cLine) (e1 : ns1 = ns2) (e2 : b1 = b2) (h : Q (.bool false) s) : wpAny (model prog w) A (compareOp .NotEq (.ref T1) (.ref T2)) Q E s :=
  ne_norm N m1 m2 i1 m3 m4 i2 hu (by rw [e1, e2]; simpa using h)
theorem eq_asked {c : Bool} (N : News h₀ L s.heap news) (m1 : (T1, tupObj #[.ref C1, .int b1 t1]) ∈ news) (m2 : (C1, tupObj vs1.toArray) ∈ news) (i1 : IntsAre vs1 ns1) (m3 : (T2, tupObj #[.ref C2, .int b2 t2]) ∈ news) (m4 : (C2, tupObj vs2.toArray) ∈ news) (i2 : IntsAre vs2 ns2)
    (hu : A.units + 64 < cLine) (e : (decide (ns1 = ns2) && decide (b1 = b2)) = c) (h : Q (.bool c) s) : wpAny (model prog w) A (compareOp .Eq (.ref T1) (.ref T2)) Q E s :=
  eq_norm N m1 m2 i1 m3 m4 i2 hu (by rw [e]; exact h)
end
theorem take_yes {l : List Nat} {i : Nat} {r : List Nat} {p : List Nat → Bool} (h : (wordsL l)[i]? = some r) (hp : p r = true) :
    (((wordsL l).take (i + 1)).filter p).map mkS = (((wordsL l).take i).filter p).map mkS ++ [mkS r] := by
  rw [List.take_add_one, h]; simp [hp]
theorem take_no {l : List Nat} {i : Nat} {r : List Nat} {p : List Nat → Bool} (h : (wordsL l)[i]? = some r) (hp : p r = false) :
    (((wordsL l).take (i + 1)).filter p).map mkS = (((wordsL l).take i).filter p).map mkS := by
  rw [List.take_add_one, h]; simp [hp]
section
variable {l r : List Nat} {i : Nat} {vs : List Value} {t : Tok}
theorem long_yes (S : StrsAre vs (longL l i)) (h : (wordsL l)[i]? = some r) (e : (stOf r).n = (stOf l).n) : StrsAre (vs ++ [.str (mkS r) t]) (longL l (i + 1)) := by
  unfold longL; rw [take_yes h (by simp [isLong, e])]; exact strs_snoc S _ _
theorem long_no (S : StrsAre vs (longL l i)) (h : (wordsL l)[i]? = some r) (e : (stOf r).n ≠ (stOf l).n) : StrsAre vs (longL l (i + 1)) := by
  unfold longL; rw [take_no h (by simp [isLong, e])]; exact S
theorem due_yes (S : StrsAre vs (dueL l i)) (h : (wordsL l)[i]? = some r) (e : (aheadW r).sum = (aheadW l).sum) : StrsAre (vs ++ [.str (mkS r) t]) (dueL l (i + 1)) := by
  unfold dueL; rw [take_yes h (by simp [isDue, e])]; exact strs_snoc S _ _
theorem due_no (S : StrsAre vs (dueL l i)) (h : (wordsL l)[i]? = some r) (e : (aheadW r).sum ≠ (aheadW l).sum) : StrsAre vs (dueL l (i + 1)) := by
  unfold dueL; rw [take_no h (by simp [isDue, e])]; exact S
theorem long_len (S : StrsAre vs (longL l i)) : vs.length ≤ 64 := by
  rw [S.length]; unfold longL
  rw [List.length_map]
  exact Nat.le_trans (List.length_filter_le _ _) (Nat.le_trans (List.length_take_le' _ _) (words_len 6 _ _))
theorem due_len (S : StrsAre vs (dueL l i)) : vs.length ≤ 64 := by
  rw [S.length]; unfold dueL
  rw [List.length_map]
  exact Nat.le_trans (List.length_filter_le _ _) (Nat.le_trans (List.length_take_le' _ _) (words_len 6 _ _))
end
theorem ho_same {l l' : List (Addr × Obj)} {I : Addr} (h : ∀ p ∈ l, p.1 ≠ I) (e : l'.map (·.1) = l.map (·.1)) : ∀ p ∈ l', p.1 ≠ I := by
  intro p hp
  have : p.1 ∈ l'.map (·.1) := List.mem_map_of_mem hp
  rw [e] at this
  obtain ⟨q, hq, e2⟩ := List.mem_map.mp this
  rw [← e2]; exact h q hq
abbrev othD {h₀ h : Heap} {L : Addr} {p0 p1 p2 p3 p4 p5 p6 p7 p8 p9 pa pb pc pd pe : Addr × Obj} {l : List (Addr × Obj)} (_ : News h₀ L h (p0 :: p1 :: p2 :: p3 :: p4 :: p5 :: p6 :: p7 :: p8 :: p9 :: pa :: pb :: pc :: pd :: pe :: l)) : Prop := AllNe p1.1 [p0, p2, p4, p5, p6, p7, pc, pd, pe]
abbrev othL {h₀ h : Heap} {L : Addr} {p0 p1 p2 p3 p4 p5 p6 p7 p8 p9 pa pb pc pd pe : Addr × Obj} {l : List (Addr × Obj)} (_ : News h₀ L h (p0 :: p1 :: p2 :: p3 :: p4 :: p5 :: p6 :: p7 :: p8 :: p9 :: pa :: pb :: pc :: pd :: pe :: l)) : Prop := AllNe p2.1 [p0, p1, p4, p5, p6, p7, pc, pd, pe]
theorem ne_obj {h₀ h : Heap} {L a D : Addr} {o o' : Obj} {news : List (Addr × Obj)} (N : News h₀ L h news) (m1 : (a, o) ∈ news) (m2 : (D, o') ∈ news) (hne : o.cls ≠ o'.cls) : @Ne Nat a D := fun e => by
  have h1 := (N _ m1).1
  have h2 := (N _ m2).1
  have e : a = D := e
  subst e
  rw [h1] at h2
  cases h2
  exact hne rfl
/-- a mark: the walker goes past a stop -/
structure Passed : Prop where
  mk ::
structure EndOk (l : List Nat) : Prop where
  e1 : (wordsL l).filter (isLong l) = (wordsL l).filter (isDue l)
  e2 : (comeW 20 0 [mkS l]).length < 64
  e3 : ∀ ss : List Str, ss.Perm (comeW 20 0 [mkS l]) → sortedS ss = true → ss = ((wordsL l).filter (isDue l)).map mkS
theorem long_is {l r : List Nat} : isLong l r = longC l r := by
  unfold isLong longC
  rw [stN_is, stN_is]
  by_cases h : sumN (rowsL r) = sumN (rowsL l)
  · rw [h]; simp
  · have h2 : ¬ ((sumN (rowsL r) : Nat) : Int) = ((sumN (rowsL l) : Nat) : Int) := fun e => h (by omega)
    simp [h, h2]
theorem due_is {l r : List Nat} (hl : l ∈ allW 6) (hr : r ∈ allW 6) : isDue l r = dueC l r := by
  unfold isDue dueC
  rw [ahead_is hl, ahead_is hr, sum_go, sum_go]
  by_cases h : sumA 0 r = sumA 0 l
  · rw [h]; simp
  · have h2 : ¬ ((sumA 0 r : Nat) : Int) = ((sumA 0 l : Nat) : Int) := fun e => h (by omega)
    simp [h, h2]
theorem dueW_is {l : List Nat} (hl : l ∈ allW 6) : (wordsL l).filter (isDue l) = dueW l := by
  unfold dueW
  rw [← wordsM_is hl]
  exact List.filter_congr fun r hr => due_is hl (words_in l hl r hr)
theorem longW_is {l : List Nat} (hl : l ∈ allW 6) : (wordsL l).filter (isLong l) = (wordsM (l.count 97)).filter (longC l) := by
  rw [← wordsM_is hl]
  exact List.filter_congr fun r _ => long_is
theorem endOk : ∀ l ∈ allW 6, EndOk l := by
  intro l hl
  have h := List.all_eq_true.mp end_all l hl
  simp only [endB, Bool.and_eq_true, beq_iff_eq, decide_eq_true_eq] at h
  obtain ⟨⟨h1, h2⟩, h3, h4⟩ := h
  have hc : comeW 20 0 [mkS l] = (comeL 20 0 [l]).map mkS := come_is 20 0 [l] (fun x hx => by rw [List.mem_singleton.mp hx]; exact (allW_len 6 l hl).1)
  refine ⟨by rw [dueW_is hl, longW_is hl]; exact h1, by rw [hc, List.length_map]; exact h2, fun ss hp hs => ?_⟩
  rw [hc] at hp
  rw [dueW_is hl]
  exact sorted_uniq (hp.trans ((List.isPerm_iff.mp h3).map mkS).symm) hs h4
theorem goodW_of (l : List Nat) (hl : l ∈ allW 6) : GoodW (mkS l) := by
  obtain ⟨h1, h2⟩ := allW_len 6 l hl
  exact ⟨by show l.toArray.size = 6; rw [List.size_toArray, h1], h2⟩
theorem strOk_W {l : List Nat} (hl : l ∈ allW 6) : PyData.strOk (mkS l) = true := by
  obtain ⟨_, h2⟩ := allW_len 6 l hl
  unfold PyData.strOk
  rw [Array.all_eq_true]
  intro i hi
  have := h2 (l[i]'(by simpa [mkS] using hi)) (List.getElem_mem _)
  simp only [mkS, decide_eq_true_eq]
  rcases this with e | e <;> simp [e]
theorem due_ok (l : List Nat) (hl : l ∈ allW 6) : ((((wordsL l).filter (isDue l)).map mkS).all PyData.strOk) = true := by
  rw [List.all_eq_true]
  intro x hx
  obtain ⟨r, hr, rfl⟩ := List.mem_map.mp hx
  exact strOk_W (words_in l hl r (List.mem_filter.mp hr).1)
theorem longL_end {l : List Nat} {n : Nat} (h : n = (wordsL l).length) : longL l n = ((wordsL l).filter (isLong l)).map mkS := by
  unfold longL; rw [h, List.take_length]
theorem dueL_end {l : List Nat} {n : Nat} (h : n = (wordsL l).length) : dueL l n = ((wordsL l).filter (isDue l)).map mkS := by
  unfold dueL; rw [h, List.take_length]
abbrev cOf {h₀ h : Heap} {L d1 d2 : Addr} {q0 q1 q2 p0 t1 t2 t3 t4 : Addr × Obj} {vs ws : List Value} {k1 k2 : Nat} {a2 a3 : Addr} {o2 o3 : Obj} {l : List (Addr × Obj)}
  (_ : News h₀ L h (q0 :: q1 :: q2 :: p0 :: (d1, W.listOf ws.toArray k1) :: (d2, W.listOf vs.toArray k2) :: t1 :: t2 :: t3 :: t4 :: (a3, o3) :: (a2, o2) :: l)) : LW := ⟨vs, k2, ws, k1, o2, o3⟩
end Mine
-- part Kb1
namespace Mine
section
theorem off_Kb1 : True := by w_top off; trivial
local macro_rules | `(tactic| walk_at "zq") => `(tactic| skip)
local macro_rules | `(tactic| walk_at "zq") => `(tactic| skip)
local macro_rules | `(tactic| walk_at "zq") => `(tactic| skip)
local macro_rules | `(tactic| walk_at "zq") => `(tactic| skip)
local macro_rules | `(tactic| walk_at "zq") => `(tactic| skip)
local macro_rules | `(tactic| walk_at "zq") => `(tactic| skip)
local macro_rules | `(tactic| walk_at "zq") => `(tactic| skip)
local macro_rules | `(tactic| walk_at "zq") => `(tactic| skip)
local macro_rules | `(tactic| walk_at "zq") => `(tactic| skip)
local macro_rules | `(tactic| walk_at "zq") => `(tactic| skip)
local macro_rules | `(tactic| walk_at "zq") => `(tactic| skip)
local macro_rules | `(tactic| walk_at "zq") => `(tactic| skip)
local macro_rules | `(tactic| walk_at "zq") => `(tactic| skip)
local macro_rules | `(tactic| walk_at "zq") => `(tactic| skip)
local macro_rules | `(tactic| walk_at "zq") => `(tactic| skip)
local macro_rules | `(tactic| walk_at "zq") => `(tactic| skip)
local macro_rules | `(tactic| walk_at "zq") => `(tactic| skip)
local macro_rules | `(tactic| walk_at "zq") => `(tactic| skip)
local macro_rules | `(tactic| walk_at "zq") => `(tactic| skip)
local macro_rules | `(tactic| walk_at "zq") => `(tactic| skip)
local macro_rules | `(tactic| walk_at "zq") => `(tactic| skip)
local macro_rules | `(tactic| walk_at "zq") => `(tactic| skip)
local macro_rules | `(tactic| walk_at "zq") => `(tactic| skip)
local macro_rules | `(tactic| walk_at "zq") => `(tactic| skip)
local macro_rules | `(tactic| walk_at "zq") => `(tactic| skip)
local macro_rules | `(tactic| walk_at "zq") => `(tactic| skip)
local macro_rules | `(tactic| walk_at "zq") => `(tactic| skip)
local macro_rules | `(tactic| walk_at "zq") => `(tactic| skip)
local macro_rules | `(tactic| walk_at "zq") => `(tactic| skip)
local macro_rules | `(tactic| walk_at "zq") => `(tactic| skip)
local macro_rules | `(tactic| walk_at "zq") => `(tactic| skip)
local macro_rules | `(tactic| walk_at "zq") => `(tactic| skip)
local macro_rules | `(tactic| walk_at "zq") => `(tactic| skip)
local macro_rules | `(tactic| walk_at "zq") => `(tactic| skip)
local macro_rules | `(tactic| walk_at "zq") => `(tactic| skip)
local macro_rules | `(tactic| walk_at "zq") => `(tactic| skip)
local macro_rules | `(tactic| walk_at "zq") => `(tactic| skip)
local macro_rules | `(tactic| walk_at "zq") => `(tactic| skip)
local macro_rules | `(tactic| walk_at "zq") => `(tactic| skip)
local macro_rules | `(tactic| walk_at "zq") => `(tactic| skip)
local macro_rules | `(tactic| walk_at "zq") => `(tactic| skip)
local macro_rules | `(tactic| walk_at "zq") => `(tactic| skip)
local macro_rules | `(tactic| walk_at "zq") => `(tactic| skip)
local macro_rules | `(tactic| walk_at "zq") => `(tactic| skip)
local macro_rules | `(tactic| walk_at "zq") => `(tactic| skip)
local macro_rules | `(tactic| walk_at "zq") => `(tactic| skip)
local macro_rules | `(tactic| walk_at "zq") => `(tactic| skip)
local macro_rules | `(tactic| walk_at "zq") => `(tactic| skip)
local macro_rules | `(tactic| walk_at "zq") => `(tactic| skip)
local macro_rules | `(tactic| walk_at "zq") => `(tactic| skip)
local macro_rules | `(tactic| walk_at "zq") => `(tactic| skip)
local macro_rules | `(tactic| walk_at "zq") => `(tactic| skip)
local macro_rules | `(tactic| walk_at "zq") => `(tactic| skip)
local macro_rules | `(tactic| walk_at "zq") => `(tactic| skip)
local macro_rules | `(tactic| walk_at "zq") => `(tactic| skip)
local macro_rules | `(tactic| walk_at "zq") => `(tactic| skip)
local macro_rules | `(tactic| walk_at "zq") => `(tactic| skip)
local macro_rules | `(tactic| walk_at "zq") => `(tactic| skip)
local macro_rules | `(tactic| walk_at "zq") => `(tactic| skip)
local macro_rules | `(tactic| walk_at "zq") => `(tactic| skip)
local macro_rules | `(tactic| walk_at "zq") => `(tactic| skip)
local macro_rules | `(tactic| walk_at "zq") => `(tactic| skip)
local macro_rules | `(tactic| walk_at "zq") => `(tactic| skip)
local macro_rules | `(tactic| walk_at "zq") => `(tactic| skip)
local macro_rules | `(tactic| walk_at "zq") => `(tactic| skip)
local macro_rules | `(tactic| walk_at "zq") => `(tactic| skip)
local macro_rules | `(tactic| walk_at "zq") => `(tactic| skip)
local macro_rules | `(tactic| walk_at "zq") => `(tactic| skip)
local macro_rules | `(tactic| walk_at "zq") => `(tactic| skip)
local macro_rules | `(tactic| walk_at "zq") => `(tactic| skip)
local macro_rules | `(tactic| walk_at "zq") => `(tactic| skip)
local macro_rules | `(tactic| walk_at "zq") => `(tactic| skip)
local macro_rules | `(tactic| walk_at "zq") => `(tactic| skip)
local macro_rules | `(tactic| walk_at "zq") => `(tactic| skip)
local macro_rules | `(tactic| walk_at "zq") => `(tactic| skip)
local macro_rules | `(tactic| walk_at "zq") => `(tactic| skip)
local macro_rules | `(tactic| walk_at "zq") => `(tactic| skip)
local macro_rules | `(tactic| walk_at "zq") => `(tactic| skip)
local macro_rules | `(tactic| walk_at "zq") => `(tactic| skip)
local macro_rules | `(tactic| walk_at "zq") => `(tactic| skip)
local macro_rules | `(tactic| walk_at "zq") => `(tactic| skip)
local macro_rules | `(tactic| walk_at "zq") => `(tactic| skip)
local macro_rules | `(tactic| walk_at "zq") => `(tactic| skip)
local macro_rules | `(tactic| walk_at "zq") => `(tactic| skip)
local macro_rules | `(tactic| walk_at "zq") => `(tactic| skip)
local macro_rules | `(tactic| walk_at "zq") => `(tactic| skip)
local macro_rules | `(tactic| walk_at "zq") => `(tactic| skip)
local macro_rules | `(tactic| walk_at "zq") => `(tactic| skip)
local macro_rules | `(tactic| walk_at "zq") => `(tactic| skip)
local macro_rules | `(tactic| walk_at "zq") => `(tactic| skip)
local macro_rules | `(tactic| walk_at "zq") => `(tactic| skip)
local macro_rules | `(tactic| walk_at "zq") => `(tactic| skip)
local macro_rules | `(tactic| walk_at "zq") => `(tactic| skip)
local macro_rules | `(tactic| walk_at "zq") => `(tactic| skip)
local macro_rules | `(tactic| walk_at "zq") => `(tactic| skip)
local macro_rules | `(tactic| walk_at "zq") => `(tactic| skip)
local macro_rules | `(tactic| walk_at "zq") => `(tactic| skip)
local macro_rules | `(tactic| walk_at "zq") => `(tactic| skip)
local macro_rules | `(tactic| walk_at "zq") => `(tactic| skip)
local macro_rules | `(tactic| walk_at "zq") => `(tactic| skip)
local macro_rules | `(tactic| walk_at "zq") => `(tactic| skip)
local macro_rules | `(tactic| walk_at "zq") => `(tactic| skip)
local macro_rules | `(tactic| walk_at "zq") => `(tactic| skip)
local macro_rules | `(tactic| walk_at "zq") => `(tactic| skip)
local macro_rules | `(tactic| walk_at "zq") => `(tactic| skip)
local macro_rules | `(tactic| walk_at "zq") => `(tactic| skip)
local macro_rules | `(tactic| walk_at "zq") => `(tactic| skip)
local macro_rules | `(tactic| walk_at "zq") => `(tactic| skip)
local macro_rules | `(tactic| walk_at "zq") => `(tactic| skip)
local macro_rules | `(tactic| walk_at "zq") => `(tactic| skip)
local macro_rules | `(tactic| walk_at "zq") => `(tactic| skip)
local macro_rules | `(tactic| walk_at "zq") => `(tactic| skip)
local macro_rules | `(tactic| walk_at "zq") => `(tactic| skip)
local macro_rules | `(tactic| walk_at "zq") => `(tactic| skip)
local macro_rules | `(tactic| walk_at "zq") => `(tactic| skip)
local macro_rules | `(tactic| walk_at "zq") => `(tactic| skip)
local macro_rules | `(tactic| walk_at "zq") => `(tactic| skip)
local macro_rules | `(tactic| walk_at "zq") => `(tactic| skip)
local macro_rules | `(tactic| walk_at "zq") => `(tactic| skip)
local macro_rules | `(tactic| walk_at "zq") => `(tactic| skip)
local macro_rules | `(tactic| walk_at "EndP") => `(tactic| (refine EndP.intro (Fr.keep (by assumption)) ?_))
local macro_rules | `(tactic| walk_at "p_enter") => `(tactic| (
  unfold Pure1
  k_fill
  intro gd env outer A₀ base h₀ L m s mean mg mb B F X T hf hk
  refine' pure_enter B F X T ?kA hf hk ?k6 ?k7 ?k8 ?k9 ?kB ?_ ?c2 ?c3 ?c4 ?c5; (case kA => exact rfl);  (case k6 => k_is); (case k7 => k_is); (case k8 => exact Nat.le_of_ble_eq_true rfl); (case k9 => exact BindsTo.of_eq rfl); (case c5 => decide); (case kB => exact locs rfl); (case c2 => exact rfl); (case c3 => exact rfl); (case c4 => exact rfl); 
  clear hf hk F X T B; intro L' h' F' N' B' X' T'; (try dsimp only); (try k_fold)))
local macro_rules | `(tactic| walk_at "p_enterT") => `(tactic| (
  unfold PureT1
  k_fill
  intro gd env outer A₀ base h₀ L m s mean mg mb tT B F X T hf hk
  refine' pure_enterT tT B F X T ?kA hf hk ?k6 ?k7 ?k8 ?k9 ?kB ?_ ?c2 ?c3 ?c4 ?c5; (case kA => exact rfl);  (case k6 => k_is); (case k7 => k_is); (case k8 => exact Nat.le_of_ble_eq_true rfl); (case k9 => exact BindsTo.of_eq rfl); (case c5 => decide); (case kB => exact locs rfl); (case c2 => exact rfl); (case c3 => exact rfl); (case c4 => exact rfl); 
  clear hf hk F X T B tT; intro L' h' tk0 tT F' N' B' X' T'; (try dsimp only); (try k_fold)))
local macro_rules | `(tactic| k_steps) => `(tactic| repeat' ((fail_if_success (with_reducible refine Hold.go ?_)); (fail_if_success (with_reducible refine TurnEnd.mk ?_)); (fail_if_success (with_reducible refine WTurn.mk ?_)); (fail_if_success (with_reducible refine TurnEndT.mk ?_ ?_)); (first | (k_unfold; (try dsimp only)) | (k_end; wrow_close) | walk1 | (dsimp only; walk1) | (leave1; walk_say "STEP leave1"; (try dsimp only)) | fail "no step")))
local macro_rules | `(tactic| walk_at "subscriptTail List cons Slice ref ref") => `(tactic| ((with_reducible rename Fr _ _ _ _ => F'); (with_reducible rename News _ _ _ _ => N'); (refine' slice_from_I (ns := [0, 1, 1, 0, 1, 0]) (s := ⟨_, _, _, _, _⟩) F' N' (by k_mem) ?hi ?h0 ?hz ?_; (case hi => exact .cons _ _ (.cons _ _ (.cons _ _ (.cons _ _ (.cons _ _ (.cons _ _ .nil)))))); (case h0 => omega); (case hz => exact Nat.le_of_ble_eq_true rfl)); intro h' D' vs' F' N' i9 l1; (try k_lt l1)))
local macro_rules | `(tactic| walk_at "binaryOp Add ref ref") => `(tactic| (k_here; k_dflt (refine' add_I ?F ?N ?m ?m2 ?i ?j ?z ?_; (case F => k_asm); (case N => k_asm); (case m => k_mem); (case m2 => k_mem); (case i => first | with_reducible assumption | exact .cons _ _ .nil); (case j => first | with_reducible assumption | exact .cons _ _ .nil); (case z => ((simp only [List.length_take, List.length_drop, List.length_cons, List.length_nil]); omega))); intro D' h' F' N' i' l1; (have l9 := l1); (try k_lt l1)))
local macro_rules | `(tactic| walk_at "pyIter ref") => `(tactic| ((with_reducible show wpAny _ _ (pyIter _) (CompPost _ _ _ _ _ _ _ _ _) _ _); k_here; refine Hold.stop ?_))
local macro_rules | `(tactic| walk_at "call builtin:str.join") => `(tactic| (k_here; (refine' join_list (by with_reducible assumption) (by with_reducible assumption) ?hz ?_); (case hz => (rw [lets_len]; (simp only [List.length_map, List.length_append, List.length_take, List.length_drop, List.length_cons, List.length_nil]); (show _ + _ * 0 ≤ 16777216); omega)); intro t' k'; (with_reducible rename Txt.join _ _ = mkS _ => el9); rw [el9]))
theorem made_lt {h₀ h h' : Heap} {L : Addr} {news l : List (Addr × Obj)} (N : News h₀ L h news) (M : Made h h' l) {a : Addr} {o : Obj} (hm : (a, o) ∈ l) : ∀ p ∈ news, p.1 < a := fun p hp => Nat.lt_of_lt_of_le (news_lt N p hp) (M _ hm).2
local macro_rules | `(tactic| walk_at "call ref cons nil") => `(tactic| ((with_reducible show wpAny _ _ (call (Value.ref 140) _) _ _ _); k_here; k_dflt (refine' pure_use (leadW _ _ ?hl _) ?B ?F ?X ?T ?N ?h1 ?h2 ?hf ?hk ?hd ?hu ?_; (case hl => with_reducible assumption); (case B => k_asm); (case F => k_asm); (case X => k_asm); (case T => k_asm); (case N => k_asm); (case h1 => rfl); (case h2 => rfl); (case hf => rfl); (case hk => rfl); (case hd => exact Nat.le_of_ble_eq_true rfl); (case hu => exact Nat.le_of_ble_eq_true rfl)); (rename News _ _ _ _ => NO9); intro v' h' tk' F' N' st' R'; obtain ⟨x', dx', tn', tc', vs', k', e9, M9, i9, l9a, l9b, l9c⟩ := R'; subst e9; have l1 := made_lt NO9 M9 (.tail _ (.tail _ (.tail _ (.head _)))); (try k_lt l1); have N9 := Made.onto M9 (by k_asm) NO9 st'; clear N' M9 NO9; dsimp only [wsLed, wsEs] at N9; simp only [List.cons_append, List.nil_append] at N9))
local macro_rules | `(tactic| walk_at "eval ListComp") => `(tactic| ((with_reducible show wpAny _ _ (eval (Expr.ListComp _ [Comprehension.mk _ (Expr.Call (Expr.Name (Str.ofString "range") _) _ _ _) _ _] _ _) _) _ _ _); k_here; refine Hold.stop ?_))
local macro_rules | `(tactic| walk_at "subscriptTail Name Slice str ref") => `(tactic| ((with_reducible show wpAny _ _ (subscriptTail _ (Expr.Slice none (some _) none _) _ _) _ _ _); (with_reducible rename InElt _ _ => E'); (with_reducible rename Fr _ _ _ _ => F'); (with_reducible rename News _ _ _ _ => N'); (refine slice_E_ns (s := ⟨_, _, _, _, _⟩) E' F' N' (by omega) ?_); intro _ _ _ _ _ _ _))
local macro_rules | `(tactic| walk_at "exec For Name Call cons nil") => `(tactic| (k_here; (rename Fr _ _ _ _ => lF'); (with_unfolding_all refine' For_invTF lF' ?h1 ?h2); (case h2 => exact fun _ => rfl)))
local macro_rules | `(tactic| walk_at "pyIter ref") => `(tactic| ((with_reducible show wpAny _ _ (pyIter (Value.ref _)) (fun it s₂ => LoopAtT _ _ _ _ _ _ _ _ _ it s₂) _ _); k_here; refine Hold.stop ?_))
local macro_rules | `(tactic| walk_at "pyIter ref") => `(tactic| ((with_reducible show wpAny _ _ (pyIter (Value.ref _)) (fun it s₂ => LoopAtV _ _ _ _ _ _ _ _ _ it s₂) _ _); k_here; refine Hold.stop ?_))
local macro_rules | `(tactic| walk_at "call ref") => `(tactic| ((with_reducible show wpAny _ _ (call (Value.ref 133) _) _ _ _); k_here; refine Hold.stop ?_))
local macro_rules | `(tactic| walk_at "call ref cons nil") => `(tactic| ((with_reducible show wpAny _ _ (call (Value.ref 133) _) _ _ _); k_here; refine Hold.stop ?_))
local macro_rules | `(tactic| walk_at "call ref cons cons") => `(tactic| ((with_reducible show wpAny _ _ (call (Value.ref 133) _) _ _ _); k_here; refine Hold.stop ?_))
local macro_rules | `(tactic| walk_at "call builtin:max") => `(tactic| (k_here; (with_reducible show wpAny _ _ (call (Value.builtin _) [Value.ref _]) _ _ _); k_dflt (refine' max_V ?F ?N ?l ?i ?hh ?_; (case F => k_asm); (case N => k_asm); (case hh => rfl); (case l => exact News.isList (by k_asm) (by k_mem)); (case i => with_reducible assumption)); intro h' t' tk' F' N'))
local macro_rules | `(tactic| walk_at "call type:tuple") => `(tactic| (k_here; (with_reducible show wpAny _ _ (call (Value.type _) [Value.ref _]) _ _ _); k_dflt (refine' tuple_I ?F ?N ?m ?i ?z ?_; (case F => k_asm); (case N => k_asm); (case m => k_mem); (case i => with_reducible assumption); (case z => omega)); intro D' h' F' N' l1; (have l9 := l1); (try k_lt l1)))
local macro_rules | `(tactic| walk_at "compareOp NotEq ref ref") => `(tactic| (k_here; k_dflt (refine' ne_same ?N ?m1 ?m2 ?i1 ?m3 ?m4 ?i2 ?hu ?e1 ?e2 ?_; (case N => k_asm); (case m1 => k_mem); (case m2 => k_mem); (case m3 => k_mem); (case m4 => k_mem); (case i1 => with_reducible assumption); (case i2 => with_reducible assumption); (case hu => exact Nat.le_of_ble_eq_true rfl); (case e1 => with_reducible assumption); (case e2 => with_reducible assumption))))
local macro_rules | `(tactic| walk_at "compareOp Eq ref ref") => `(tactic| (k_here; k_dflt (refine' eq_asked ?N ?m1 ?m2 ?i1 ?m3 ?m4 ?i2 ?hu ?e ?_; (case N => k_asm); (case m1 => k_mem); (case m2 => k_mem); (case m3 => k_mem); (case m4 => k_mem); (case i1 => with_reducible assumption); (case i2 => with_reducible assumption); (case hu => exact Nat.le_of_ble_eq_true rfl); (case e => with_reducible assumption))))
local macro_rules | `(tactic| walk_at "call builtin:list.append") => `(tactic| (k_here; k_dflt (refine' append_V ?F ?N ?U ?z ?_; (case F => k_asm); (case N => k_asm); (case U => k_upd); (case z => omega)); intro h' F' N'))
local macro_rules | `(tactic| walk_at "newTuple") => `(tactic| (k_here; k_dflt (refine' kup_newTuple ?F ?N ?_ ?z; (case F => k_asm); (case N => k_asm); (case z => kmk_size)); intro D' h' F' N' l1; (try k_lt l1)))
local macro_rules | `(tactic| k_ne) => `(tactic| (refine neN ?_; (try dsimp only); first | with_reducible assumption | exact Ne.symm (by with_reducible assumption) | omega))
local macro_rules | `(tactic| walk_at "exec If Compare cons nil") => `(tactic| ((fail_if_success (with_reducible rename Passed => hh)); (with_reducible show wpAny _ _ (exec (Stmt.If (Expr.Compare (Expr.Attribute (Expr.Name (Str.ofString "lead") _) (Str.ofString "n") _) _ _ _) _ _ _) _) _ _ _); k_here; refine Hold.stop ?_))
local macro_rules | `(tactic| walk_at "compareOp Eq ref ref") => `(tactic| (k_here; k_dflt (refine' eq_strsT ?N ?m1 ?m2 ?S1 ?S2 ?e ?ok ?hu ?_; (case N => k_asm); (case m1 => k_mem); (case m2 => k_mem); (case S1 => with_reducible assumption); (case S2 => with_reducible assumption); (case e => with_reducible assumption); (case ok => with_reducible assumption); (case hu => exact Nat.le_of_ble_eq_true rfl))))
local macro_rules | `(tactic| walk_at "call ref cons nil") => `(tactic| ((with_reducible show wpAny _ _ (call (Value.ref 147) _) _ _ _); k_here; k_dflt (refine' pure_use (come _ _ _ ?hg ?hz) ?B ?F ?X ?T ?N ?h1 ?h2 ?hf ?hk ?hd ?hu ?_; (case hg => with_reducible assumption); (case hz => with_reducible assumption); (case B => k_asm); (case F => k_asm); (case X => k_asm); (case T => k_asm); (case N => k_asm); (case h1 => rfl); (case h2 => rfl); (case hf => rfl); (case hk => rfl); (case hd => exact Nat.le_of_ble_eq_true rfl); (case hu => exact Nat.le_of_ble_eq_true rfl)); (rename News _ _ _ _ => NO9); intro v' h' tk' F' N' st' R'; obtain ⟨D', vs', n', ss', e9, M9, S9, P9, O9⟩ := R'; subst e9; have N9 := MadeN.onto M9 (by k_asm) NO9 st'; clear N' M9 NO9; simp only [List.cons_append, List.nil_append] at N9; (with_reducible rename ∀ ss : List Str, ss.Perm _ → _ → ss = _ => he3); have he4 := he3 _ P9 O9))
theorem law1 : PySem.Challenge.rw_pg0197_01.Holds := hd01 (by
  k_go0
  (all_goals try k_fold)
  k_steps
  refine Hold.go ?_
  (rename Fr _ _ _ _ => F1)
  (rename News _ _ _ _ => N1)
  (rename IntsAre _ _ => i1)
  refine' srcC_listDW (pz := fun _ => true) (d := fun v => PyData.str (let1 v)) rfl (News.isList N1 (.head _)) (IntsAre.areOf i1) F1 N1 (fun _ _ _ _ _ _ _ _ _ _ _ => wpAny_pure ⟨rfl, ⟨_, _, rfl, fun _ _ e => e⟩⟩) ?g2 ?g3 ?hsz
  case hsz => (simp only [List.length_append, List.length_take, List.length_drop, List.length_cons, List.length_nil]; rw [sizeLine_eq]; omega)
  case g2 =>
    intro C a v s₂ m₂ E' ha hv _ hns hm ht
    obtain ⟨tv, e'⟩ := ItemKind.int_is hv
    subst e'
    k_steps
    · exact .str _ _
    · exact ⟨_, _, rfl, fun _ _ e => e⟩
  case g3 =>
    intro D ys h' tk F' N' q1 q2 q3 q4
    obtain ⟨l, hl, el⟩ := word6' i1
    have hl6 : (mkS l).length = 6 := by
      show l.toArray.size = 6
      rw [List.size_toArray, (allW_len 6 l hl).1]
    have S1 := strs_comp q4
    k_steps
    -- pairs
    refine Hold.go ?_
    (rename Fr _ _ _ _ => Fx)
    refine' comp_range (pzW l) (fun k => PyData.int (cntW l k)) Fx ?hh ?hclos ?hcell ?hkind ?hnames ?hx ?hs ?_
    (case hh => with_unfolding_all rfl)
    (case hclos => with_unfolding_all rfl)
    (case hcell => decide)
    (case hkind => with_unfolding_all rfl)
    (case hnames => decide)
    (case hx => with_unfolding_all rfl)
    (case hs => intro _; with_unfolding_all rfl)
    k_steps
    (rename Fr _ _ _ _ => Fy)
    (rename News _ _ _ _ => Ny)
    refine Hold.go ⟨_, _, _, _, _, _, _, _, 6, rfl, by with_reducible assumption, by decide, by decide, by decide, Fy, Ny, ?_, ?_, ?_⟩
    · intro C a v s₂ m₂ E' hC ha hv hns hm hk
      obtain ⟨tv, e'⟩ := ItemKind.int_is hv
      subst e'
      have ha' := mem_rangeInts ha
      k_steps
      exact ⟨_, _, rfl, fun _ _ e => e⟩
    · intro C a v s₂ m₂ E' hC ha hv hpz hns hm hk
      obtain ⟨tv, e'⟩ := ItemKind.int_is hv
      subst e'
      have ha' := mem_rangeInts ha
      k_steps
      · exact .int _ _
      · (rename InElt _ _ => E9); exact ⟨_, _, rfl, E9⟩
    · intro D ys h' tk F' N' q1 q2 q3 q4
      obtain ⟨nD, ND⟩ := comp_news F' N' q1 q2 q3
      have nD9 := allNe_of (fun p hp => q3.2 p hp)
      simp only [AllNe, and_true] at nD9
      clear N' q1 q2 q3
      have i4 := ints_comp q4
      k_steps
      refine Hold.go ?_
      (rename Fr _ _ _ _ => Fw)
      (rename News _ _ _ _ => Nw)
      have hct := counts l hl
      refine' pure_use (wordsC _ _ _ _ _ hct.1 hct.2.1 hct.2.2) ?B Fw ?X ?T Nw ?h1 ?h2 ?hf ?hk ?hd ?hu ?_
      (case B => k_asm)
      (case X => k_asm)
      (case T => k_asm)
      (case h1 => rfl)
      (case h2 => rfl)
      (case hf => rfl)
      (case hk => rfl)
      (case hd => exact Nat.le_of_ble_eq_true rfl)
      (case hu => exact Nat.le_of_ble_eq_true rfl)
      intro v' h' tk' F' N' st' R'
      obtain ⟨Dw, vsw, e9, M9, S9⟩ := R'
      subst e9
      have nw := made_ne Nw M9 (.head _)
      have N9 := MadeN.onto M9 Fw Nw st'
      clear N' M9
      simp only [List.cons_append, List.nil_append] at N9
      replace nw := allNe_of nw
      simp only [AllNe, and_true] at nw
      k_steps
      refine Hold.go ?_
      (rename Fr _ _ _ _ => Fw)
      have gD : othD N9 := by
        simp only [othD, AllNe, and_true]
        refine ⟨?_, ?_, ?_, ?_, ?_, ?_, ?_, ?_, ?_⟩ <;> omega
      have gL : othL N9 := by
        simp only [othL, AllNe, and_true]
        refine ⟨?_, ?_, ?_, ?_, ?_, ?_, ?_, ?_, ?_⟩ <;> omega
      simp only [othD, othL, AllNe, and_true] at gD gL
      obtain ⟨gD1, gD2, gD3, gD4, gD5, gD6, gD7, gD8, gD9⟩ := gD
      obtain ⟨gL1, gL2, gL3, gL4, gL5, gL6, gL7, gL8, gL9⟩ := gL
      refine' iterT_list (σ := LW) (ledB N9) (fun _ => []) [Str.ofString "lead"] (LInv l) ⟨[], 0, [], 0, _, _⟩ rfl (News.isList N9 (.head _)) (news_ne N9 (.head _)) Fw (news_sub N9 (.cons_cons _ (.cons_cons _ (.cons_cons _ (.cons _ (.cons_cons _ (.cons_cons _ (.cons_cons _ (.cons_cons _ (.cons _ (.cons _ (.cons _ (.cons _ (.cons_cons _ (.cons_cons _ (.cons_cons _ .slnil)))))))))))))))) (fun _ hp => nomatch hp) ?hi ?turn ?done
      case hi => exact ⟨.nil, .nil, ⟨_, by assumption⟩, ⟨_, by assumption⟩⟩
      case turn =>
        intro i v c u s₁ own I oI hv hj ho hm ho2 F2 N2
        obtain ⟨j1, j2, ⟨v2, j3⟩, ⟨v3, j4⟩⟩ := hj
        obtain ⟨r, tr, hr, hrW, hr6, e⟩ := word_at hl S9 hv
        subst e
        have hoD : OwnOff own (adrB N9) := by
          replace ho := allNe_of ho
          simp only [ledB, AllNe, and_true] at ho
          intro p hp b hb
          simp only [adrB, List.mem_cons, List.mem_nil_iff, or_false] at hb
          rcases ho2 p hp with e | e <;> rcases hb with rfl | rfl | rfl | rfl | rfl <;> (rw [e]; refine neN ?_; (try dsimp only); omega)
        dsimp only [adrB] at hoD
        dsimp only [kstB, ledB] at F2 N2
        simp only [List.cons_append, List.nil_append] at N2
        show wpAny _ _ _ _ _ _
        (try k_fold)
        k_steps
        -- ahead
        refine Hold.go ?_
        (rename Fr _ _ _ _ => Fx)
        refine' comp_range (pzW r) (fun k => PyData.int (cntW r k)) Fx ?hh ?hclos ?hcell ?hkind ?hnames ?hx ?hs ?_
        (case hh => with_unfolding_all rfl)
        (case hclos => with_unfolding_all rfl)
        (case hcell => decide)
        (case hkind => with_unfolding_all rfl)
        (case hnames => decide)
        (case hx => with_unfolding_all rfl)
        (case hs => intro _; with_unfolding_all rfl)
        k_steps
        (rename Fr _ _ _ _ => Fy)
        (rename News _ _ _ _ => Ny)
        refine Hold.go ⟨_, _, _, _, _, _, _, _, 6, rfl, by with_reducible assumption, by decide, by decide, by decide, Fy, Ny, ?_, ?_, ?_⟩
        · intro C a v s₂ m₂ E' hC ha hv hns hm hk
          obtain ⟨tv, e'⟩ := ItemKind.int_is hv
          subst e'
          have ha' := mem_rangeInts ha
          k_steps
          exact ⟨_, _, rfl, fun _ _ e => e⟩
        · intro C a v s₂ m₂ E' hC ha hv hpz hns hm hk
          obtain ⟨tv, e'⟩ := ItemKind.int_is hv
          subst e'
          have ha' := mem_rangeInts ha
          k_steps
          · exact .int _ _
          · (rename InElt _ _ => E9); exact ⟨_, _, rfl, E9⟩
        · intro D ys h' tk F' N' q1 q2 q3 q4
          obtain ⟨nD, ND⟩ := comp_news F' N' q1 q2 q3
          have nD9 := allNe_of (fun p hp => q3.2 p hp)
          simp only [AllNe, and_true] at nD9
          have ga1 : @Ne Nat _ D := q3.2 (_, W.listOf c.dvs.toArray c.dcap) (by k_mem)
          have ga2 : @Ne Nat _ D := q3.2 (_, W.listOf c.lvs.toArray c.lcap) (by k_mem)
          clear N' q1 q2 q3
          have i5 : IntsAre ys (aheadW r) := ints_comp q4
          have hA6 := ahead_len r
          have hW := wordOk r hrW
          obtain ⟨hm1, hm2, hcn, hb0⟩ := hW
          have hz1 := long_len j1
          have hz2 := due_len j2
          have hp := pairOk l hl r (List.mem_of_getElem? hr)
          k_steps
          -- norm
          refine Hold.go ?_
          (rename Fr _ _ _ _ => Fx)
          refine' comp_range (fun _ => true) (fun k => PyData.int (((aheadW r).count k : Nat) : Int)) Fx ?hh ?hclos ?hcell ?hkind ?hnames ?hx ?hs ?_
          (case hh => with_unfolding_all rfl)
          (case hclos => with_unfolding_all rfl)
          (case hcell => decide)
          (case hkind => with_unfolding_all rfl)
          (case hnames => decide)
          (case hx => with_unfolding_all rfl)
          (case hs => intro _; with_unfolding_all rfl)
          k_steps
          (rename Fr _ _ _ _ => Fy)
          (rename News _ _ _ _ => Ny)
          refine Hold.go ⟨_, _, _, _, _, _, _, _, _, rfl, by with_reducible assumption, small_one (by decide) (by decide) (by omega) (by omega), rangeSize_nat _ _, by rw [sizeLine_eq]; omega, Fy, Ny, ?_, ?_, ?_⟩
          · intro C a v s₂ m₂ E' hC ha hv hns hm hk
            obtain ⟨tv, e'⟩ := ItemKind.int_is hv
            subst e'
            have ha' := mem_rangeInts ha
            exact wpAny_pure ⟨rfl, ⟨_, _, rfl, fun _ _ e => e⟩⟩
          · intro C a v s₂ m₂ E' hC ha hv hpz hns hm hk
            obtain ⟨tv, e'⟩ := ItemKind.int_is hv
            subst e'
            have ha' := mem_rangeInts ha
            k_steps
            · exact .int _ _
            · (rename InElt _ _ => E9); exact ⟨_, _, rfl, E9⟩
          · intro D ys h' tk F' N' q1 q2 q3 q4
            obtain ⟨nD, ND⟩ := comp_news F' N' q1 q2 q3
            have nD9 := allNe_of (fun p hp => q3.2 p hp)
            simp only [AllNe, and_true] at nD9
            clear N' q1 q2 q3
            have i6 : IntsAre ys (normW r) := ints_comp q4
            have hn6 : (normW r).length ≤ 20 := by unfold normW nW; rw [List.length_map]; exact Nat.le_trans (List.length_filter_le _ _) (by rw [rangeInts_length]; omega)
            k_steps
            · (rename ((_ != _) = true) => a9)
              exfalso
              rw [mkS_beq] at a9
              simp at a9
            (rename Fr _ _ _ _ => F9)
            (rename News _ _ _ _ => N9)
            refine Hold.go ?_
            replace N9 := news_sub N9 (.cons _ (.cons _ (.cons _ (.cons _ (.cons _ (.cons_cons _ (.cons _ (.cons _ (.cons_cons _ (.cons_cons _ (.refl _)))))))))))
            have gn1 := ne_obj N9 (.tail _ (.head _)) (.tail _ (.tail _ (.tail _ (.tail _ (.head _))))) (fun e => nomatch e)
            have gn2 := ne_obj N9 (.tail _ (.head _)) (.tail _ (.tail _ (.tail _ (.tail _ (.tail _ (.head _)))))) (fun e => nomatch e)
            have gn3 := ne_obj N9 (.tail _ (.tail _ (.head _))) (.tail _ (.tail _ (.tail _ (.tail _ (.head _))))) (show (Value.type "dict" : Value) ≠ Value.type "list" by decide)
            have gn4 := ne_obj N9 (.tail _ (.tail _ (.head _))) (.tail _ (.tail _ (.tail _ (.tail _ (.tail _ (.head _)))))) (show (Value.type "dict" : Value) ≠ Value.type "list" by decide)
            have hpass : Passed := ⟨⟩
            k_steps
            all_goals
              (rename Fr _ _ _ _ => F9)
              (rename News _ _ _ _ => N9)
              first
              | ((rename ((stOf _).n = (stOf _).n) => al9); (have al := long_yes (t := tr) (by with_reducible assumption) hr al9))
              | ((rename ((stOf _).n ≠ (stOf _).n) => al9); (have al := long_no (by with_reducible assumption) hr al9))
              first
              | ((rename (List.sum _ = List.sum _) => ad9); (have ad := due_yes (t := tr) (by with_reducible assumption) hr ad9))
              | ((rename (List.sum _ ≠ List.sum _) => ad9); (have ad := due_no (by with_reducible assumption) hr ad9))
              refine' TurnEndT.mk' (cOf N9) F9 (news_sub N9 (.cons _ (.cons _ (.cons _ (.refl _))))) ?_ (fun _ hp => nomatch hp) ?_ ?_
              · exact ho_same ho rfl
              rotate_left
              · exact ⟨al, ad, ⟨_, by with_reducible assumption⟩, ⟨_, by with_reducible assumption⟩⟩
              intro z hz0 hz2 hz3
              have hq1 : z ≠ Str.ofString "lead" := ncont hz3 (by decide)
              simp only [kstB, if_neg hz0, if_neg hq1, hz3, Bool.false_eq_true, if_false]

      case done =>
        intro c u h tk hj F2 N2
        obtain ⟨j1, j2, ⟨v2, j3⟩, ⟨v3, j4⟩⟩ := hj
        have hn9 : vsw.length = (wordsL l).length := by rw [S9.length, List.length_map]; rfl
        rw [longL_end hn9] at j1
        rw [dueL_end hn9] at j2
        obtain ⟨he1, he2, he3⟩ := endOk l hl
        replace he1 := congrArg (List.map mkS) he1
        have hok := due_ok l hl
        have hgw := goodW_of l hl
        dsimp only [kstB, ledB] at F2 N2
        show wpAny _ _ _ _ _ _
        (try k_fold)
        k_steps
)
end
end Mine
end
theorem PySem.Challenge.cw_pg0197_01_holds : PySem.Challenge.rw_pg0197_01.Holds :=
  Mine.law1
